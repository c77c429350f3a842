/- The proof layer of this claim, fourth part: operations that make or write memory, and calls. -/
import Derived.Test.YtgpfjlfkaoffeaaGreatDoorP03
set_option linter.all false
namespace Go.Proofs.YtgpfjlfkaoffeaaGreatDoor
open Go
def zeroL (P : Program) (T : TypeId) : Option (List Value) :=
  match P.info? T with
  | some i => match i.zero with
    | some z => some z.cells.toList
    | none => none
  | none => none
theorem zeroL_spec {P : Program} {T : TypeId} {zs : List Value} (h : zeroL P T = some zs) : ∃ i z, P.info? T = some i ∧ i.zero = some z ∧ z.cells = zs.toArray := by
  unfold zeroL at h
  split at h
  · rename_i i hi
    split at h
    · rename_i z hz
      simp at h
      exact ⟨i, z, hi, hz, by rw [← h]⟩
    · cases h
  · cases h
def Flat (l : List Value) : Prop := ∀ v ∈ l, v.oneCell' = true
theorem flat_nil : Flat [] := fun _ h => by cases h
theorem bX {v : Value} {l : List Value} (hv : v.oneCell' = true) (h : Flat l) : Flat (v :: l) := by
  intro u hu
  rcases List.mem_cons.1 hu with rfl | hu
  · exact hv
  · exact h u hu
theorem flat_app {l m : List Value} (h : Flat l) (k : Flat m) : Flat (l ++ m) := by
  intro u hu
  rcases List.mem_append.1 hu with hu | hu
  · exact h u hu
  · exact k u hu
theorem flat_rep {v : Value} (n : Nat) (h : v.oneCell' = true) : Flat (List.replicate n v) := fun u hu => by rw [(List.mem_replicate.1 hu).2]; exact h
section
variable {P : Program} {n : Nat} {ρ : Env} {w0 : Base} {w : World} {L : List (Nat × Obj)} {K : Env → World → Prop} {d : Tmp} {ty : TypeId} {pos : String} {af : Array Edge} {g : Option (Nat × Bool)}
theorem aX {T : TypeId} {zs : List Value} (hs : St w0 w L) (hz : zeroL P T = some zs) (hd : Nat.blt d n = true)
    (hk : ∀ b w', w0.heap.size ≤ b → b = w.heap.size → St w0 w' ((b, .cells zs.toArray T (0, 0)) :: L) → K (upd ρ d (.pointer (some ⟨b, 0, none⟩))) w') : OW P n ⟨some d, .alloc T, ty, pos, af, g⟩ K ρ w := by
  obtain ⟨i, z, hi, hz1, hz2⟩ := zeroL_spec hz
  refine o_val (F := fun v w' => v = .pointer (some ⟨w.heap.size, 0, none⟩) ∧ w' = w.alloc (.cells zs.toArray T)) ?_ hd ?_
  · intro o e ho he
    refine ⟨_, _, ?_, rfl, rfl⟩
    simp [execOp, ho, Instr.alloc, zeroValue, typeInfo, hi, hz1, newVar, newRow, hz2]
  · rintro v w' ⟨rfl, rfl⟩
    exact hk _ _ hs.size rfl (hs.alloc _ _)
theorem cR {T : TypeId} {x : Operand} {v : Value} {l : List Value} (hs : St w0 w L) (hx : ev ρ x = some v) (hl : v.cells = l.toArray) (hd : Nat.blt d n = true)
    (hk : ∀ b w', w0.heap.size ≤ b → b = w.heap.size → St w0 w' ((b, .cells l.toArray T (0, 0)) :: L) → K (upd ρ d (.pointer (some ⟨b, 0, none⟩))) w') : OW P n ⟨some d, .box T x, ty, pos, af, g⟩ K ρ w := by
  refine o_val (F := fun u w' => u = .pointer (some ⟨w.heap.size, 0, none⟩) ∧ w' = w.alloc (.cells l.toArray T)) ?_ hd ?_
  · intro o e ho he
    refine ⟨_, _, ?_, rfl, rfl⟩
    simp [execOp, ho, he _ _ hx, Instr.box, newVar, newRow, hl]
  · rintro v w' ⟨rfl, rfl⟩
    exact hk _ _ hs.size rfl (hs.alloc _ _)
theorem setRow_st (hs : St w0 w L) {k b : Nat} {l l' : List Value} {E : TypeId} {L' : List (Nat × Obj)} (hk : lget L k = some (b, .cells l.toArray E (0, 0)))
    (hL : lset L k (b, .cells l'.toArray E (0, 0)) = some L') : St w0 (w.setRow b l'.toArray) L' := by
  have hb := hs.get hk
  exact hs.put hk hL (bU _ _) rfl rfl rfl (setRow_size w b _) (setRow_heap w b _ _ E (0, 0) hb) (fun i hi => setRow_other w b i _ hi)
theorem run_storeOne {T : TypeId} {kk b p : Nat} {l l' : List Value} {E : TypeId} {v : Value} (hk : kindOf P T = some (false, kk)) (h1 : kk = 1) (hb : w.heap[b]? = some (.cells l.toArray E (0, 0))) (hl : lset l p v = some l')
    (hv : v.oneCell' = true) : (storeVar T ⟨b, p, none⟩ v).run P w = .ok () (w.setRow b l'.toArray) := by
  obtain ⟨rfl, hp⟩ := lset_eq hl
  have hc : v.cells = #[v] := by cases v <;> first | rfl | simp [Value.oneCell'] at hv
  have hst := run_storeCells_at P b p E [v] 0 l.toArray w hb (by simp; omega) (by simpa using hv)
  simp only [Nat.add_zero, List.length_singleton] at hst
  subst h1
  simp only [storeVar, hc, Sem.run_bind, kind_size hk, Result.andThen_ok]
  rw [if_neg (by simp)]
  rw [hst]
  congr 2
  have : (List.take p l ++ [v] ++ List.drop (p + 1) l) = l.set p v := by
    rw [List.set_eq_take_append_cons_drop, if_pos hp]; simp
  simp [← this]
theorem run_storeAgg {T : TypeId} {kk b p : Nat} {l vs : List Value} {E : TypeId} (hk : kindOf P T = some (true, kk)) (hb : w.heap[b]? = some (.cells l.toArray E (0, 0))) (hvs : vs.length = kk) (hp : p + kk ≤ l.length)
    (hf : Flat vs) : (storeVar T ⟨b, p, none⟩ (.agg vs.toArray)).run P w = .ok () (w.setRow b (l.take p ++ vs ++ l.drop (p + kk)).toArray) := by
  have hst := run_storeCells_at P b p E vs 0 l.toArray w hb (by simp; omega) hf
  simp only [Nat.add_zero, hvs] at hst
  have hsz : (Value.agg vs.toArray).cells.size = kk := by simpa [Value.cells] using hvs
  have hst' : (storeCells ⟨b, p, none⟩ (Value.agg vs.toArray).cells.toList).run P w = .ok () (w.setRow b (l.take p ++ vs ++ l.drop (p + kk)).toArray) := hst
  simp only [storeVar, Sem.run_bind, kind_size hk, Result.andThen_ok]
  rw [if_neg (by rw [hsz]; simp)]
  exact hst'
theorem aS {T : TypeId} {x y : Operand} {kk k b p : Nat} {l l' : List Value} {E : TypeId} {v : Value} {L' : List (Nat × Obj)} (hs : St w0 w L) (hT : kindOf P T = some (false, kk)) (h1 : kk = 1)
    (hx : ev ρ x = some (.pointer (some ⟨b, p, none⟩))) (hy : ev ρ y = some v) (hv : v.oneCell' = true) (hk : lget L k = some (b, .cells l.toArray E (0, 0))) (hl : lset l p v = some l')
    (hL : lset L k (b, .cells l'.toArray E (0, 0)) = some L') (hK : ∀ w', St w0 w' L' → K ρ w') : OW P n ⟨none, .store T x y, ty, pos, af, g⟩ K ρ w := by
  refine o_skip (F := fun w' => w' = w.setRow b l'.toArray) ?_ ?_
  · intro o e ho he
    refine ⟨_, ?_, rfl⟩
    simp [execOp, ho, he _ _ hx, he _ _ hy, Instr.storeAt, Instr.sureAddr, run_storeOne hT h1 (hs.get hk) hl hv]
  · rintro w' rfl
    exact hK _ (setRow_st hs hk hL)
theorem o_storeA {T : TypeId} {x y : Operand} {kk k b p : Nat} {l vs : List Value} {E : TypeId} {L' : List (Nat × Obj)} (hs : St w0 w L) (hT : kindOf P T = some (true, kk))
    (hx : ev ρ x = some (.pointer (some ⟨b, p, none⟩))) (hy : ev ρ y = some (.agg vs.toArray)) (hk : lget L k = some (b, .cells l.toArray E (0, 0))) (hvs : vs.length = kk) (hp : p + kk ≤ l.length) (hf : Flat vs)
    (hL : lset L k (b, .cells (l.take p ++ vs ++ l.drop (p + kk)).toArray E (0, 0)) = some L') (hK : ∀ w', St w0 w' L' → K ρ w') : OW P n ⟨none, .store T x y, ty, pos, af, g⟩ K ρ w := by
  refine o_skip (F := fun w' => w' = w.setRow b (l.take p ++ vs ++ l.drop (p + kk)).toArray) ?_ ?_
  · intro o e ho he
    refine ⟨_, ?_, rfl⟩
    simp only [execOp, ho, he _ _ hx, he _ _ hy, Instr.storeAt, Instr.sureAddr, Sem.run_bind, Sem.run_pure, Result.andThen_ok, run_storeAgg hT (hs.get hk) hvs hp hf]
  · rintro w' rfl
    exact hK _ (setRow_st hs hk hL)
theorem aM {T : TypeId} {x y : Operand} {kk k b : Nat} {l vs : List Value} {E : TypeId} {L' : List (Nat × Obj)} (hs : St w0 w L) (hT : kindOf P T = some (true, kk))
    (hx : ev ρ x = some (.pointer (some ⟨b, 0, none⟩))) (hy : ev ρ y = some (.agg vs.toArray)) (hk : lget L k = some (b, .cells l.toArray E (0, 0))) (hvs : vs.length = kk) (hl : l.length = kk) (hf : Flat vs)
    (hL : lset L k (b, .cells vs.toArray E (0, 0)) = some L') (hK : ∀ w', St w0 w' L' → K ρ w') : OW P n ⟨none, .store T x y, ty, pos, af, g⟩ K ρ w := by
  refine o_storeA (p := 0) hs hT hx hy hk hvs (by omega) hf ?_ hK
  have : (l.take 0 ++ vs ++ l.drop (0 + kk)) = vs := by simp [← hl]
  rw [this]
  exact hL
theorem dQ (k : Nat) {T : TypeId} {x y : Operand} {kk b p : Nat} {l l' : List Value} {E : TypeId} {v : Value} {L' : List (Nat × Obj)} (hs : St w0 w L) (hT : kindOf P T = some (false, kk)) (h1 : kk = 1)
    (hx : ev ρ x = some (.pointer (some ⟨b, p, none⟩))) (hy : ev ρ y = some v) (hv : v.oneCell' = true) (hk : lget L k = some (b, .cells l.toArray E (0, 0))) (hl : lset l p v = some l')
    (hL : lset L k (b, .cells l'.toArray E (0, 0)) = some L') (hK : ∀ w', St w0 w' L' → K ρ w') : OW P n ⟨none, .store T x y, ty, pos, af, g⟩ K ρ w := aS hs hT h1 hx hy hv hk hl hL hK
theorem dR (k : Nat) {T : TypeId} {x y : Operand} {kk b : Nat} {l vs : List Value} {E : TypeId} {L' : List (Nat × Obj)} (hs : St w0 w L) (hT : kindOf P T = some (true, kk))
    (hx : ev ρ x = some (.pointer (some ⟨b, 0, none⟩))) (hy : ev ρ y = some (.agg vs.toArray)) (hk : lget L k = some (b, .cells l.toArray E (0, 0))) (hvs : vs.length = kk) (hl : l.length = kk) (hf : Flat vs)
    (hL : lset L k (b, .cells vs.toArray E (0, 0)) = some L') (hK : ∀ w', St w0 w' L' → K ρ w') : OW P n ⟨none, .store T x y, ty, pos, af, g⟩ K ρ w := aM hs hT hx hy hk hvs hl hf hL hK
def callOk (P : Program) (f : FuncId) : Bool :=
  match P.funcs[f]? with
  | some fn => fn.body.isSome && fn.name != "runtime.NumGoroutine"
  | none => false
theorem run_callFunc {f : FuncId} {args : Array Value} (h : callOk P f = true) : (callFunc f args).run P w = .ok (.enter f args) w := by
  unfold callOk at h
  split at h
  · rename_i fn hf
    simp only [Bool.and_eq_true, bne_iff_ne, ne_eq] at h
    have hb : fn.body.isNone = false := by cases hb : fn.body <;> simp_all
    simp only [callFunc, Sem.run_bind, run_program, Result.andThen_ok, hf, hb, beq_iff_eq, h.2, if_false, Bool.false_eq_true, Sem.run_pure]
  · cases h
theorem cD {x : Operand} {f : FuncId} {l : List Operand} {ts : Array TypeId} {vs : List Value} {F : Value → World → Prop} (hx : ev ρ x = some (.func (.func f) #[] #[])) (hl : evL ρ l = some vs) (hf : callOk P f = true)
    (h : CallsV P f vs.toArray w F) : RC P (.call { callee := .value x, args := l.toArray, argTypes := ts }) ρ w F := by
  intro o e ho he
  have hm : l.toArray.map e = vs.toArray := by have := he.list hl; rw [← this]; simp
  refine ⟨f, vs.toArray, w, ?_, h⟩
  simp only [execOp, ho, resolve, he _ _ hx, Deferred.ofValue, hm, Sem.run_bind]
  simp [invoke, run_callFunc hf]
theorem aZ {ops : Array Oper} {rest : List Oper} {x : Operand} {f : FuncId} {l : List Operand} {ts : Array TypeId} {vs : List Value} {F : Value → World → Prop} (hf : callOk P f = true) (hx : ev ρ x = some (.func (.func f) #[] #[])) (hl : evL ρ l = some vs)
    (h : CallsV P f vs.toArray w F) (hd : Nat.blt d n = true) (hk : ∀ v w', F v w' → LW P n ops rest K (upd ρ d v) w') :
    LW P n ops (⟨some d, .call { callee := .value x, args := l.toArray, argTypes := ts }, ty, pos, af, none⟩ :: rest) K ρ w :=
  aJ (cF (cD hx hl hf h) hd hk)
def Src (P : Program) (w : World) (size : Nat) (x : Value) (m : Nat) (news : List Value) : Prop :=
  (∀ w', w'.heap = w.heap → (Builtin.firstCells size m x).run P w' = .ok news.toArray w') ∧ (∀ w', (Builtin.lenOf x).run P w' = .ok m w') ∧ news.length = m * size
theorem src_slice {size b p m c : Nat} {news : List Value} (hl : news.length = m * size) (h : ∀ j v, news[j]? = some v → w.cell? ⟨b, p + j, none⟩ = some v) : Src P w size (.slice (some ⟨b, p, none⟩) m c) m news :=
  ⟨fun w' hw => by
    have := run_firstCells_some (P := P) w' size m ⟨b, p, none⟩ m c news hl (fun j v hv => by rw [add_at]; have := h j v hv; unfold World.cell? at *; rw [hw]; exact this)
    exact this, fun w' => by simp [Builtin.lenOf], hl⟩
theorem src_own (hs : St w0 w L) {size k b m c : Nat} {news : List Value} {E : TypeId} (hk : lget L k = some (b, .cells news.toArray E (0, 0))) (hl : news.length = m * size) : Src P w size (.slice (some ⟨b, 0, none⟩) m c) m news :=
  src_slice hl fun j v hv => by rw [cell_list (hs.get hk), Nat.zero_add]; exact hv
theorem src_nil {size c : Nat} : Src P w size (.slice none 0 c) 0 [] := ⟨fun w' _ => by simp [Builtin.firstCells], fun w' => by simp [Builtin.lenOf], by simp⟩
theorem src_string {s : ByteArray} : Src P w 1 (.string s) s.size (s.data.toList.map fun b => .int .u8 b.toNat) := by
  refine ⟨fun w' _ => ?_, fun w' => by simp [Builtin.lenOf], by simp⟩
  have : s.extract 0 s.size = s := by simp
  simp only [Builtin.firstCells, this, Sem.run_pure]
  congr 1
  cases s with
  | mk a => cases a; simp
structure EltOk (P : Program) (t : TypeId) (e : TypeId) (size bytes : Nat) (zs : List Value) : Prop where
  under : P.underlying t = some (.slice e)
  info : ∃ i z, P.info? e = some i ∧ i.size = size ∧ i.bytes = bytes ∧ i.zero = some z ∧ z.cells = zs.toArray
  pos : 0 < size
  zlen : zs.length = size
def eltOk (P : Program) (t : TypeId) : Option (TypeId × Nat × Nat × List Value) :=
  match P.underlying t with
  | some (.slice e) => match P.info? e with
    | some i => match i.zero with
      | some z => if i.size = 0 then none else if z.cells.size = i.size then some (e, i.size, i.bytes, z.cells.toList) else none
      | none => none
    | none => none
  | _ => none
theorem eltOk_spec {t e : TypeId} {size bytes : Nat} {zs : List Value} (h : eltOk P t = some (e, size, bytes, zs)) : EltOk P t e size bytes zs := by
  unfold eltOk at h
  split at h
  · rename_i e' ht
    split at h
    · rename_i i hi
      split at h
      · rename_i z hz
        split at h
        · cases h
        · rename_i h0
          split at h
          · rename_i hz2
            simp at h
            obtain ⟨rfl, rfl, rfl, rfl⟩ := h
            exact ⟨ht, ⟨i, z, hi, rfl, rfl, hz, by simp⟩, by omega, by simpa using hz2⟩
          · cases h
      · cases h
    · cases h
  · cases h
def SS (P : Program) (u : TypeId) : Prop := P.underlying u = some .string ∨ ∃ e, P.underlying u = some (.slice e)
theorem run_append_in {t u e : TypeId} {size bytes : Nat} {zs : List Value} (ht : EltOk P t e size bytes zs) (hu : SS P u) {b p sLen c m : Nat} {l news : List Value} {E : TypeId} {x : Value}
    (hb : w.heap[b]? = some (.cells l.toArray E (0, 0))) (hx : Src P w size x m news) (hf : Flat news) (hroom : sLen + m ≤ c) (hfit : p + sLen * size + m * size ≤ l.length) :
    (Builtin.append_ #[t, u] ty #[.slice (some ⟨b, p, none⟩) sLen c, x]).run P w =
      .ok (.slice (some ⟨b, p, none⟩) (sLen + m) c) (w.setRow b (l.take (p + sLen * size) ++ news ++ l.drop (p + sLen * size + m * size)).toArray) := by
  obtain ⟨h1, h2, h3⟩ := hx
  obtain ⟨i, z, hi, rfl, rfl, hz, hz2⟩ := ht.info
  have hst := run_storeCells_at P b (p + sLen * i.size) E news 0 l.toArray w hb (by rw [h3]; simpa using hfit) hf
  simp only [Nat.add_zero, h3] at hst
  have h1' := h1 w rfl
  have hsz : (sizeOf e).run P w = .ok i.size w := by simp [sizeOf, typeInfo, hi]
  have e0 : (#[t, u] : Array TypeId)[0]? = some t := rfl
  have e1 : (#[t, u] : Array TypeId)[1]? = some u := rfl
  have v0 : (#[.slice (some ⟨b, p, none⟩) sLen c, x] : Array Value)[0]? = some (.slice (some ⟨b, p, none⟩) sLen c) := rfl
  have v1 : (#[.slice (some ⟨b, p, none⟩) sLen c, x] : Array Value)[1]? = some x := rfl
  rcases hu with hu | ⟨e', hu⟩ <;>
    simp only [Builtin.append_, e0, e1, v0, v1, Sem.run_bind, run_underlying ht.under, run_underlying hu, Result.andThen_ok, hsz, Bool.false_eq_true, if_false, h2, hroom, if_true, Bool.not_false, h1', add_at, hst, Sem.run_pure]
theorem run_append_out {t u e : TypeId} {size bytes : Nat} {zs : List Value} (ht : EltOk P t e size bytes zs) (hu : SS P u) {a : Option Addr} {sLen c m : Nat} {olds news : List Value} {x : Value}
    (ho : ∀ w', w'.heap = w.heap → (Builtin.firstCells size sLen (.slice a sLen c)).run P w' = .ok olds.toArray w') (hx : Src P w size x m news) (hroom : c < sLen + m) (hbytes : (sLen + m) * bytes ≤ 140737488355328)
    (h63 : sLen + m ≤ 9223372036854775807) :
    ∃ cap, sLen + m ≤ cap ∧ cap ≤ maxLen ∧ (Builtin.append_ #[t, u] ty #[.slice a sLen c, x]).run P w =
      .ok (.slice (some ⟨w.heap.size, 0, none⟩) (sLen + m) cap) (w.drew.alloc (.cells (olds ++ news ++ (Builtin.zeroCells zs.toArray (cap - (sLen + m))).toList).toArray e)) := by
  obtain ⟨h1, h2, h3⟩ := hx
  obtain ⟨i, z, hi, rfl, rfl, hz, hz2⟩ := ht.info
  refine ⟨grownCap w (sLen + m) c e, grownCap_ge w _ _ _, grownCap_le_maxLen w _ _ _ (by unfold maxLen; omega), ?_⟩
  have hr : ¬ (sLen + m ≤ c) := by omega
  have hfits := growslice_fits (need := sLen + m) (old := c) (bytes := i.bytes) hroom hbytes
  have hb0 : ¬ (((sLen + m : Nat) : Int) > IntKind.i64.max ∧ (False ∨ i.bytes = 0)) := by
    have : IntKind.i64.max = 9223372036854775807 := rfl
    rw [this]; omega
  have hb1 : ¬ ((((sLen + m : Nat) : Int) > IntKind.i64.max) ∧ (i.bytes = 0)) := by
    have : IntKind.i64.max = 9223372036854775807 := rfl
    rw [this]; omega
  have hn2 : ¬ (Builtin.nextslicecap (sLen + m) c * i.bytes > 2 ^ 48) := by omega
  have hsz : (sizeOf e).run P w = .ok i.size w := by simp [sizeOf, typeInfo, hi]
  have htI : ∀ w', (typeInfo e).run P w' = .ok i w' := fun w' => by simp [typeInfo, hi]
  have hzv : ∀ w', (zeroValue e).run P w' = .ok z w' := fun w' => by simp [zeroValue, htI, hz]
  have e0 : (#[t, u] : Array TypeId)[0]? = some t := rfl
  have e1 : (#[t, u] : Array TypeId)[1]? = some u := rfl
  have v0 : (#[.slice a sLen c, x] : Array Value)[0]? = some (.slice a sLen c) := rfl
  have v1 : (#[.slice a sLen c, x] : Array Value)[1]? = some x := rfl
  have hch : (choose (.appendCap (sLen + m) c e)).run P w = .ok (grownCap w (sLen + m) c e) w.drew := by
    simp [Question.forced, grownCap]
  rcases hu with hu | ⟨e', hu⟩ <;>
    simp only [Builtin.append_, e0, e1, v0, v1, Sem.run_bind, run_underlying ht.under, run_underlying hu, Result.andThen_ok, hsz, Bool.false_eq_true, if_false, h2, hr, htI, false_or, hb1, hn2, hch, Bool.not_false, if_true,
      ho w.drew rfl, h1 w.drew rfl, hzv, run_askRoom, Sem.run_pure, newRow, run_newObj, hz2] <;>
    (simp [World.alloc]; congr 2; apply Array.ext'; simp)
end
end Go.Proofs.YtgpfjlfkaoffeaaGreatDoor

/- The proof layer of this claim, fifth part: slices that the call owns, copies, conversions, maps. The proof layer of this claim, sixth part: statements whose order is open. Whatever is pure may be taken first; the rest is told order by order. -/
import Derived.Test.YtgpfjlfkaoffeaaGreatDoorR02
import Derived.Laws.BytesArg
import Derived.MapKept
import Derived.OrdersHeld
set_option linter.all false
namespace Go.Proofs.YtgpfjlfkaoffeaaGreatDoor
open Go
def Sl (E : TypeId) (size : Nat) (w0 : Base) (w : World) (L : List (Nat × Obj)) (v : Value) (n : Nat) (xs : List Value) : Prop :=
  xs.length = n * size ∧ ((v = .slice none 0 0 ∧ n = 0 ∧ St w0 w L) ∨
    ∃ g cap sp, v = .slice (some ⟨g, 0, none⟩) n cap ∧ (xs ++ sp).length = cap * size ∧ n ≤ cap ∧ cap ≤ maxLen ∧ w0.heap.size ≤ g ∧ St w0 w ((g, .cells (xs ++ sp).toArray E (0, 0)) :: L))
section
variable {P : Program} {n : Nat} {ρ : Env} {w0 : Base} {w w1 : World} {L : List (Nat × Obj)} {K : Env → World → Prop} {d : Tmp} {ty : TypeId} {pos : String} {af : Array Edge} {g : Option (Nat × Bool)}
variable {E : TypeId} {size m : Nat} {v : Value} {xs : List Value}
theorem Sl.st (h : Sl E size w0 w L v m xs) : St w0 w L := by
  rcases h.2 with ⟨_, _, hs⟩ | ⟨g, cap, sp, _, _, _, _, hg, hs⟩
  · exact hs
  · exact hs.drop hg
theorem Sl.nil (hs : St w0 w L) : Sl E size w0 w L (.slice none 0 0) 0 [] := ⟨by simp, .inl ⟨rfl, rfl, hs⟩⟩
theorem Sl.step {w0' : Base} {w2 : World} {M : List (Nat × Obj)} (h : Sl E size w0 w L v m xs) (hB : w0'.heap.size = w0.heap.size) (hstep : ∀ X, St w0 w (X ++ L) → (∀ x ∈ X, w0.heap.size ≤ x.1) → St w0' w2 (X ++ M)) : Sl E size w0' w2 M v m xs := by
  refine ⟨h.1, ?_⟩
  rcases h.2 with ⟨hv, hn, hs⟩ | ⟨g, cap, sp, hv, hl, hnc, hcm, hg, hs⟩
  · exact .inl ⟨hv, hn, hstep [] hs (fun _ h => by cases h)⟩
  · exact .inr ⟨g, cap, sp, hv, hl, hnc, hcm, by rw [hB]; exact hg, hstep [(g, _)] hs (fun x hx => by simp at hx; subst hx; exact hg)⟩
theorem Sl.same (h : Sl E size w0 w L v m xs) (hh : w1.heap = w.heap) (ho : w1.os = w.os) (ht : w1.tape = w.tape) (hp : w1.output = w.output) : Sl E size w0 w1 L v m xs :=
  h.step rfl fun _ hs _ => hs.same hh ho ht hp
theorem Sl.frame {w0 : World} {V0 V V' : Vw} (h : Sl E size ⟨w0, V0, V⟩ w L v m xs) (hc : St ⟨w, V, V'⟩ w1 []) : Sl E size ⟨w0, V0, V'⟩ w1 L v m xs := h.step rfl fun _ hs _ => hs.frame hc
theorem lget_app {X L : List (Nat × Obj)} : ∀ k, lget (X ++ L) (X.length + k) = lget L k := fun k => by rw [lget_eq, lget_eq, List.getElem?_append_right (by omega)]; congr 1; omega
theorem lset_app {X : List (Nat × Obj)} {L L' : List (Nat × Obj)} {k : Nat} {x : Nat × Obj} (h : lset L k x = some L') : lset (X ++ L) (X.length + k) x = some (X ++ L') := by
  induction X with
  | nil => simpa using h
  | cons y r ih =>
    have : (y :: r).length + k = (r.length + k) + 1 := by simp; omega
    rw [this]
    simp only [List.cons_append, lset, ih]
theorem Sl.frame1 {w0 : World} {V0 V V' : Vw} (h : Sl E size ⟨w0, V0, V⟩ w L v m xs) {k b : Nat} {o o' : Obj} {L' : List (Nat × Obj)} (hk : lget L k = some (b, o)) (hL : lset L k (b, o') = some L')
    (hc : St ⟨w, V, V'⟩ w1 [(b, o')]) : Sl E size ⟨w0, V0, V'⟩ w1 L' v m xs := h.step rfl fun X hs _ => hs.frame1 (k := X.length + k) (by rw [lget_app]; exact hk) (lset_app hL) hc
theorem Sl.drop {b : Nat} {o : Obj} (h : Sl E size w0 w ((b, o) :: L) v m xs) (hb : w0.heap.size ≤ b) : Sl E size w0 w L v m xs := by
  refine ⟨h.1, ?_⟩
  rcases h.2 with ⟨hv, hn, hs⟩ | ⟨g, cap, sp, hv, hl, hnc, hcm, hg, hs⟩
  · exact .inl ⟨hv, hn, hs.drop hb⟩
  · exact .inr ⟨g, cap, sp, hv, hl, hnc, hcm, hg, hs.swap.drop hb⟩
theorem Sl.src (h : Sl E size w0 w L v m xs) : Src P w size v m xs := by
  rcases h.2 with ⟨rfl, rfl, hs⟩ | ⟨g, cap, sp, rfl, hl, hnc, hcm, hg, hs⟩
  · have : xs = [] := List.eq_nil_of_length_eq_zero (by simpa using h.1)
    subst this
    exact src_nil
  · refine src_slice h.1 fun j u hu => ?_
    rw [cell_list (hs.own _ (List.mem_cons_self ..)), Nat.zero_add]
    have : j < xs.length := by
      rcases Nat.lt_or_ge j xs.length with h' | h'
      · exact h'
      · simp [List.getElem?_eq_none h'] at hu
    rw [List.getElem?_append_left this]
    exact hu
theorem fA {t u e : TypeId} {bytes k : Nat} {zs news : List Value} {s x : Operand} {xv : Value} (ht : eltOk P t = some (e, size, bytes, zs)) (hu : SS P u) (h : Sl e size w0 w L v m xs)
    (hsv : ev ρ s = some v) (hx : ev ρ x = some xv) (hsrc : Src P w size xv k news) (hf : Flat news) (hlen : m + k ≤ 4611686018427387904) (hbytes : (m + k) * bytes ≤ 140737488355328) (hd : Nat.blt d n = true)
    (hk : ∀ v' w', Sl e size w0 w' L v' (m + k) (xs ++ news) → K (eH ρ d v') w') :
    OW P n ⟨some d, .call { callee := .builtin .append, args := #[s, x], argTypes := #[t, u] }, ty, pos, af, g⟩ K ρ w := by
  have hE := eltOk_spec ht
  have hkl := hsrc.2.2
  refine o_val (F := fun v' w' => Sl e size w0 w' L v' (m + k) (xs ++ news)) ?_ hd hk
  intro o ee ho he
  have hrun : (execOp ee o).run P w = ((Builtin.append_ #[t, u] o.type #[v, xv]).run P w).andThen fun a w' => .ok (.value a) w' := by
    simp [execOp, ho, resolve, he _ _ hsv, he _ _ hx, invoke, builtin]
  rw [hrun]
  have hlen2 : (xs ++ news).length = (m + k) * size := by rw [List.length_append, h.1, hkl, Nat.add_mul]
  have grow : ∀ (olds : List Value) (cap : Nat) (hs : St w0 w L), m + k ≤ cap → cap ≤ maxLen → olds = xs →
      Sl e size w0 (w.drew.alloc (.cells (olds ++ news ++ (Builtin.zeroCells zs.toArray (cap - (m + k))).toList).toArray e)) L (.slice (some ⟨w.heap.size, 0, none⟩) (m + k) cap) (m + k) (xs ++ news) := by
    rintro olds cap hs hc1 hc2 rfl
    refine ⟨hlen2, .inr ⟨w.heap.size, cap, (Builtin.zeroCells zs.toArray (cap - (m + k))).toList, rfl, ?_, hc1, hc2, hs.size, ?_⟩⟩
    · rw [List.length_append, hlen2, Array.length_toList, size_zeroCells]
      simp only [List.size_toArray, hE.zlen]
      rw [← Nat.add_mul]
      congr 1
      omega
    · exact hs.drew.alloc _ _
  rcases h.2 with ⟨rfl, rfl, hs⟩ | ⟨g, cap, sp, rfl, hl, hnc, hcm, hg, hs⟩
  · have hx0 : xs = [] := List.eq_nil_of_length_eq_zero (by simpa using h.1)
    subst hx0
    by_cases hk0 : k = 0
    · subst hk0
      have hn0 : news = [] := List.eq_nil_of_length_eq_zero (by simpa using hkl)
      subst hn0
      have hr : (Builtin.append_ #[t, u] o.type #[.slice none 0 0, xv]).run P w = .ok (.slice none 0 0) w := by
        obtain ⟨i, z, hi, rfl, rfl, hz, hz2⟩ := hE.info
        have h1 := hsrc.1 w rfl
        have e0 : (#[t, u] : Array TypeId)[0]? = some t := rfl
        have e1 : (#[t, u] : Array TypeId)[1]? = some u := rfl
        have v0 : (#[.slice none 0 0, xv] : Array Value)[0]? = some (.slice none 0 0) := rfl
        have v1 : (#[.slice none 0 0, xv] : Array Value)[1]? = some xv := rfl
        have hsz : (sizeOf e).run P w = .ok i.size w := by simp [sizeOf, typeInfo, hi]
        rcases hu with hu | ⟨e', hu⟩ <;>
          simp only [Builtin.append_, e0, e1, v0, v1, Sem.run_bind, run_underlying hE.under, run_underlying hu, Result.andThen_ok, hsz, Bool.false_eq_true, if_false, hsrc.2.1 w, Nat.add_zero, Nat.le_refl, if_true, Bool.not_false, h1, Sem.run_pure]
      rw [hr]
      exact ⟨_, _, rfl, by simp, .inl ⟨rfl, rfl, hs⟩⟩
    · obtain ⟨cap, hc1, hc2, hr⟩ := run_append_out (ty := o.type) hE hu (a := none) (sLen := 0) (c := 0) (olds := []) (w := w) (fun w' _ => by simp [Builtin.firstCells]) hsrc (by omega) (by simpa using hbytes) (by omega)
      rw [hr]
      exact ⟨_, _, rfl, grow [] cap hs (by simpa using hc1) hc2 rfl⟩
  · have hb := hs.own _ (List.mem_cons_self ..)
    by_cases hroom : m + k ≤ cap
    · have hsz2 : xs.length + sp.length = cap * size := by simpa using hl
      have hmul : (m + k) * size ≤ cap * size := Nat.mul_le_mul_right _ hroom
      have hmul2 : (m + k) * size = m * size + k * size := Nat.add_mul ..
      have hr := run_append_in (ty := o.type) hE hu (b := g) (p := 0) (sLen := m) (c := cap) hb hsrc hf hroom (by have := h.1; simp; omega)
      rw [hr]
      refine ⟨_, _, rfl, hlen2, .inr ⟨g, cap, sp.drop (k * size), rfl, ?_, hroom, hcm, hg, ?_⟩⟩
      · have := h.1; simp; omega
      · have e : (List.take (0 + m * size) (xs ++ sp) ++ news ++ List.drop (0 + m * size + k * size) (xs ++ sp)) = xs ++ news ++ sp.drop (k * size) := by
          have h1 : List.take (0 + m * size) (xs ++ sp) = xs := by rw [Nat.zero_add, ← h.1]; exact List.take_left
          have h2 : List.drop (0 + m * size + k * size) (xs ++ sp) = sp.drop (k * size) := by
            rw [Nat.zero_add, ← h.1, ← List.drop_drop, List.drop_left]
          rw [h1, h2]
        rw [e]
        exact setRow_st (k := 0) hs rfl rfl
    · obtain ⟨cap', hc1, hc2, hr⟩ := run_append_out (ty := o.type) hE hu (a := some ⟨g, 0, none⟩) (sLen := m) (c := cap) (olds := xs) (w := w) (fun w' hw' => by
        have hsx : Src P w size (.slice (some ⟨g, 0, none⟩) m cap) m xs := h.src
        exact hsx.1 w' hw') hsrc (by omega) hbytes (by omega)
      rw [hr]
      exact ⟨_, _, rfl, grow xs cap' (hs.drop hg) hc1 hc2 rfl⟩
theorem o_appendAt {t u e : TypeId} {bytes k kk b p sLen c : Nat} {l zs news : List Value} {s x : Operand} {xv : Value} {L' : List (Nat × Obj)} (ht : eltOk P t = some (e, size, bytes, zs)) (hu : SS P u) (hs : St w0 w L)
    (hsv : ev ρ s = some (.slice (some ⟨b, p, none⟩) sLen c)) (hx : ev ρ x = some xv) (hsrc : Src P w size xv k news) (hf : Flat news) (hkk : lget L kk = some (b, .cells l.toArray E (0, 0))) (hroom : sLen + k ≤ c)
    (hfit : p + sLen * size + k * size ≤ l.length) (hL : lset L kk (b, .cells (l.take (p + sLen * size) ++ news ++ l.drop (p + sLen * size + k * size)).toArray E (0, 0)) = some L') (hd : Nat.blt d n = true)
    (hk : ∀ w', St w0 w' L' → K (eH ρ d (.slice (some ⟨b, p, none⟩) (sLen + k) c)) w') :
    OW P n ⟨some d, .call { callee := .builtin .append, args := #[s, x], argTypes := #[t, u] }, ty, pos, af, g⟩ K ρ w := by
  have hE := eltOk_spec ht
  refine o_val (F := fun v' w' => v' = .slice (some ⟨b, p, none⟩) (sLen + k) c ∧ St w0 w' L') ?_ hd ?_
  · intro o ee ho he
    have hr := run_append_in (ty := o.type) hE hu (hs.get hkk) hsrc hf hroom hfit
    refine ⟨_, _, ?_, rfl, setRow_st hs hkk hL⟩
    simp [execOp, ho, resolve, he _ _ hsv, he _ _ hx, invoke, builtin, hr]
  · rintro v' w' ⟨rfl, hs'⟩
    exact hk _ hs'
theorem o_make {t e : TypeId} {bytes c l : Nat} {zs : List Value} {x y : Operand} {kl kc : IntKind} {li ci : Int} (ht : eltOk P t = some (e, size, bytes, zs)) (hs : St w0 w L) (hx : ev ρ x = some (.int kl li)) (hy : ev ρ y = some (.int kc ci))
    (hl : li = l) (hc : ci = c) (hlc : l ≤ c) (hbytes : bytes * c ≤ 281474976710656) (h63 : c ≤ 4611686018427387904) (hd : Nat.blt d n = true)
    (hk : ∀ b w', w0.heap.size ≤ b → b = w.heap.size → St w0 w' ((b, .cells (madeCells zs.toArray (c * size)).toList.toArray e (0, 0)) :: L) → K (eH ρ d (.slice (some ⟨b, 0, none⟩) l c)) w') :
    OW P n ⟨some d, .makeSlice t x y, ty, pos, af, g⟩ K ρ w := by
  have hE := eltOk_spec ht
  obtain ⟨i, z, hi, rfl, rfl, hz, hz2⟩ := hE.info
  subst hl hc
  refine o_val (F := fun v w' => v = .slice (some ⟨w.heap.size, 0, none⟩) l c ∧ w' = w.alloc (.cells (madeCells zs.toArray (c * i.size)) e)) ?_ hd ?_
  · intro o ee ho he
    have hr := run_make (P := P) w t e i z hE.under hi hz kl kc l c (by omega) (by omega) (by
      have h : ((i.bytes * c : Nat) : Int) ≤ 281474976710656 := by omega
      rwa [Int.natCast_mul] at h) (by omega)
    simp only [Int.toNat_natCast, hz2] at hr
    refine ⟨_, _, ?_, rfl, rfl⟩
    simp [execOp, ho, he _ _ hx, he _ _ hy, hr]
  · rintro v w' ⟨rfl, rfl⟩
    refine hk _ _ hs.size rfl ?_
    rw [Array.toArray_toList]
    exact hs.alloc _ _
theorem made_one (z : Value) (k : Nat) : (madeCells [z].toArray (k * 1)).toList = List.replicate k z := by
  rw [Nat.mul_one]; exact toList_madeCells_one z k
theorem made_len (zs : List Value) (k : Nat) : (madeCells zs.toArray k).toList.length = k := by simp [madeCells]
theorem fP {t e : TypeId} {sz : Nat} (ht : fK P t = some (e, sz)) (hs : St w0 w L) (hd : Nat.blt d n = true)
    (hk : ∀ b w', w0.heap.size ≤ b → b = w.heap.size → St w0 w' ((b, .cells [].toArray e (0, 0)) :: L) → K (eH ρ d (.slice (some ⟨b, 0, none⟩) 0 0)) w') : OW P n ⟨some d, .buildSlice t 0 #[], ty, pos, af, g⟩ K ρ w := by
  obtain ⟨h1, i, h2, rfl⟩ := elemSize_spec ht
  refine o_val (F := fun v w' => v = .slice (some ⟨w.heap.size, 0, none⟩) 0 0 ∧ w' = w.alloc (.cells [].toArray e)) ?_ hd ?_
  · intro o ee ho he
    refine ⟨_, _, ?_, rfl, rfl⟩
    have : Array.map (fun (_ : Nat) => (default : Value)) #[] = #[] := by simp
    simp [execOp, ho, Instr.buildSlice, run_underlying h1, sizeOf, typeInfo, h2, Instr.fill, newRow]
    rw [Array.range_zero', this]
  · rintro v w' ⟨rfl, rfl⟩
    exact hk _ _ hs.size rfl (hs.alloc _ _)
theorem foldl_set (off : Nat) : ∀ (vl : List Value) (j : Nat) (cs : Array Value), off + j + vl.length ≤ cs.size →
    ((vl.zipIdx j).foldl (fun (cs : Array Value) (x : Value × Nat) => cs.setIfInBounds (off + x.2) x.1) cs).toList = cs.toList.take (off + j) ++ vl ++ cs.toList.drop (off + j + vl.length)
  | [], j, cs, _ => by simp
  | v :: r, j, cs, h => by
    simp only [List.length_cons] at h
    have ih := foldl_set off r (j + 1) (cs.setIfInBounds (off + j) v) (by simp; omega)
    simp only [List.zipIdx_cons, List.foldl_cons, ih, Array.toList_setIfInBounds]
    have e := list_seg_step cs.toList (off + j) v r (by simp; omega)
    have e2 : off + j + (v :: r).length = off + j + (r.length + 1) := rfl
    rw [e2, ← e]
    rfl
theorem fill_step {place : Nat → Option (Nat × Nat)} {i off s : Nat} {v : Value} {vl : List Value} {cells : Array Value} {rest : List (Nat × Value)} (hp : place i = some (off, s)) (hv : v.cells = vl.toArray) (hl : vl.length = s)
    (hfit : off + s ≤ cells.size) : Instr.fill place cells ((i, v) :: rest) = Instr.fill place (cells.toList.take off ++ vl ++ cells.toList.drop (off + s)).toArray rest := by
  have hsz : v.cells.size = s := by rw [hv]; simpa using hl
  have hf : (v.cells.zipIdx.foldl (fun (cs : Array Value) (x : Value × Nat) => cs.setIfInBounds (off + x.2) x.1) cells) = (cells.toList.take off ++ vl ++ cells.toList.drop (off + s)).toArray := by
    have := foldl_set off vl 0 cells (by omega)
    rw [hv, ← Array.foldl_toList, Array.toList_zipIdx]
    simp only [Nat.add_zero, hl] at this
    rw [← this]
  have h1 : ¬ (v.cells.size ≠ s ∨ off + v.cells.size > cells.size) := by rw [hsz]; omega
  simp only [Instr.fill, hp]
  rw [if_neg (by simpa using h1)]
  exact congrArg (fun c => Instr.fill place c rest) hf
def enumF : Nat → List Value → List (Nat × Value)
  | _, [] => []
  | i, v :: r => (i, v) :: enumF (i + 1) r
theorem fill_enum {s : Nat} : ∀ (vs : List Value) (vls : List (List Value)) (i : Nat) (pre post : List Value), vs.map (·.cells) = vls.map (·.toArray) → (∀ l ∈ vls, l.length = s) → pre.length = i * s → post.length = vs.length * s →
    Instr.fill (fun i => some (i * s, s)) (pre ++ post).toArray (enumF i vs) = some (pre ++ vls.flatten).toArray
  | [], vls, i, pre, post, h, _, _, hp => by
    have : post = [] := List.eq_nil_of_length_eq_zero (by simpa using hp)
    cases vls with
    | nil => simp [enumF, Instr.fill, this]
    | cons _ _ => simp at h
  | v :: r, vls, i, pre, post, h, hl, hpre, hpost => by
    cases vls with
    | nil => simp at h
    | cons vl vls =>
      simp only [List.map_cons, List.cons.injEq] at h
      have hvl := hl vl (List.mem_cons_self ..)
      simp only [List.length_cons, Nat.add_mul, Nat.one_mul] at hpost
      rw [enumF, fill_step (vl := vl) rfl h.1 hvl (by simp; omega)]
      have e1 : (pre ++ post).toArray.toList.take (i * s) = pre := by simp [← hpre]
      have e2 : (pre ++ post).toArray.toList.drop (i * s + s) = post.drop s := by
        simp only [← hpre, ← List.drop_drop, List.drop_left]
      rw [e1, e2]
      have ih := fill_enum r vls (i + 1) (pre ++ vl) (post.drop s) h.2 (fun l hl' => hl l (List.mem_cons_of_mem _ hl')) (by simp [hpre, hvl, Nat.add_mul]) (by simp; omega)
      simpa using ih
theorem o_bslice {t e : TypeId} {bytes : Nat} {zs : List Value} {ps : List (Nat × Operand)} {vs : List Value} {vls : List (List Value)} {len : Nat} (ht : eltOk P t = some (e, size, bytes, zs)) (hs : St w0 w L) (hv : evL ρ (ps.map (·.2)) = some vs)
    (hps : ps.map (·.1) = List.range len) (hlen : vs.length = len) (hc : vs.map (·.cells) = vls.map (·.toArray)) (hl : ∀ l ∈ vls, l.length = size) (hsm : len * size ≤ 16777216) (h0 : 0 < len) (hd : Nat.blt d n = true)
    (hk : ∀ b w', w0.heap.size ≤ b → b = w.heap.size → St w0 w' ((b, .cells vls.flatten.toArray e (0, 0)) :: L) → K (eH ρ d (.slice (some ⟨b, 0, none⟩) len len)) w') : OW P n ⟨some d, .buildSlice t len ps.toArray, ty, pos, af, g⟩ K ρ w := by
  have hE := eltOk_spec ht
  obtain ⟨i, z, hi, rfl, rfl, hz, hz2⟩ := hE.info
  refine o_val (F := fun v w' => v = .slice (some ⟨w.heap.size, 0, none⟩) len len ∧ w' = w.alloc (.cells vls.flatten.toArray e)) ?_ hd ?_
  · intro o ee ho he
    have hm : ps.map (fun x => (x.1, ee x.2)) = enumF 0 vs := by
      have h1 := he.list hv
      have h2 : ∀ (i : Nat) (ps : List (Nat × Operand)) (vs : List Value), ps.map (·.1) = List.range' i vs.length → (ps.map (·.2)).map ee = vs → ps.map (fun x => (x.1, ee x.2)) = enumF i vs := by
        intro i ps
        induction ps generalizing i with
        | nil => intro vs _ h; subst h; rfl
        | cons p r ih =>
          intro vs h3 h4
          cases vs with
          | nil => simp at h4
          | cons v vs =>
            simp only [List.map_cons, List.length_cons, List.range'_succ, List.cons.injEq] at h3 h4
            simp only [List.map_cons, enumF, List.cons.injEq, ih (i + 1) vs h3.2 h4.2, and_true]
            rw [h3.1, h4.1]
      exact h2 0 ps vs (by rw [hps, List.range_eq_range', hlen]) h1
    have hfill : Instr.fill (fun j => some (j * i.size, i.size)) ((Array.range (len * i.size)).map (zs.toArray[· % zs.toArray.size]!)) (enumF 0 vs) = some vls.flatten.toArray := by
      have := fill_enum vs vls 0 [] ((Array.range (len * i.size)).map (zs.toArray[· % zs.toArray.size]!)).toList hc hl (by simp) (by simp [hlen])
      rw [List.nil_append, Array.toArray_toList, List.nil_append] at this
      exact this
    have hne : ¬ (len * i.size = 0) := by
      have := hE.pos
      have : 0 < len * i.size := Nat.mul_pos h0 this
      omega
    have hsm' : ¬ (len * i.size > 2 ^ 24) := by omega
    refine ⟨_, _, ?_, rfl, rfl⟩
    have e1 : (ps.toArray.map fun (x : Nat × Operand) => (x.1, ee x.2)).toList = enumF 0 vs := by rw [Array.toList_map]; exact hm
    have e2 : (sizeOf e).run P w = .ok i.size w := by simp [sizeOf, typeInfo, hi]
    have e3 : (zeroValue e).run P w = .ok z w := by simp [zeroValue, typeInfo, hi, hz]
    simp only [execOp, ho, Instr.buildSlice, Sem.run_bind, run_underlying hE.under, Result.andThen_ok, e2, if_neg hsm', Sem.run_pure, if_neg hne, e3, hz2]
    rw [e1, hfill]
    simp only [Sem.run_bind, newRow, run_newObj, Result.andThen_ok, Sem.run_pure]
    rfl
  · rintro v w' ⟨rfl, rfl⟩
    exact hk _ _ hs.size rfl (hs.alloc _ _)
def Fst (P : Program) (w : World) (size : Nat) (x : Value) (m : Nat) (news : List Value) : Prop := (Builtin.firstCells size m x).run P w = .ok news.toArray w ∧ news.length = m * size
theorem Src.fst {x : Value} {k : Nat} {news : List Value} (h : Src P w size x k news) : Fst P w size x k news := ⟨h.1 w rfl, h.2.2⟩
theorem fst_slice {b p c : Nat} {k : Nat} {news : List Value} {len : Nat} (hl : news.length = k * size) (h : ∀ j v, news[j]? = some v → w.cell? ⟨b, p + j, none⟩ = some v) : Fst P w size (.slice (some ⟨b, p, none⟩) len c) k news :=
  ⟨run_firstCells_some (P := P) w size k ⟨b, p, none⟩ len c news hl (fun j v hv => by rw [add_at]; exact h j v hv), hl⟩
theorem fst_string {s : ByteArray} {k : Nat} (hk : k ≤ s.size) : Fst P w 1 (.string s) k ((s.data.toList.take k).map fun b => .int .u8 b.toNat) := by
  refine ⟨?_, by simp; omega⟩
  simp only [Builtin.firstCells, Sem.run_pure]
  congr 1
  apply Array.ext'
  have : (s.extract 0 k).data.toList = s.data.toList.take k := by
    simp [ByteArray.data_extract]
  simp
theorem o_copy {t u e : TypeId} {kk b p dLen c k sl : Nat} {l news : List Value} {x y : Operand} {yv : Value} {E' : TypeId} {L' : List (Nat × Obj)} (ht : fK P t = some (e, size)) (hs : St w0 w L)
    (hx : ev ρ x = some (.slice (some ⟨b, p, none⟩) dLen c)) (hy : ev ρ y = some yv) (hsl : (Builtin.lenOf yv).run P w = .ok sl w) (hk0 : Nat.min sl dLen = k) (hsrc : Fst P w size yv k news) (hf : Flat news)
    (hkk : lget L kk = some (b, .cells l.toArray E' (0, 0))) (hfit : p + k * size ≤ l.length) (hL : lset L kk (b, .cells (l.take p ++ news ++ l.drop (p + k * size)).toArray E' (0, 0)) = some L') (hd : Nat.blt d n = true)
    (hk : ∀ w', St w0 w' L' → K (eH ρ d (.int .i64 k)) w') : OW P n ⟨some d, .call { callee := .builtin .copy, args := #[x, y], argTypes := #[t, u] }, ty, pos, af, g⟩ K ρ w := by
  obtain ⟨h1, i, h2, rfl⟩ := elemSize_spec ht
  refine o_val (F := fun v' w' => v' = .int .i64 k ∧ St w0 w' L') ?_ hd ?_
  · intro o ee ho he
    have hst := run_storeCells_at P b p E' news 0 l.toArray w (hs.get hkk) (by rw [hsrc.2]; simpa using hfit) hf
    simp only [Nat.add_zero, hsrc.2] at hst
    have e2 : (sizeOf e).run P w = .ok i.size w := by simp [sizeOf, typeInfo, h2]
    have e0 : (#[t, u] : Array TypeId)[0]? = some t := rfl
    have v0 : (#[.slice (some ⟨b, p, none⟩) dLen c, yv] : Array Value)[0]? = some (.slice (some ⟨b, p, none⟩) dLen c) := rfl
    have v1 : (#[.slice (some ⟨b, p, none⟩) dLen c, yv] : Array Value)[1]? = some yv := rfl
    have hr : (Builtin.copy_ #[t, u] o.type #[.slice (some ⟨b, p, none⟩) dLen c, yv]).run P w = .ok (.int .i64 k) (w.setRow b (l.take p ++ news ++ l.drop (p + k * i.size)).toArray) := by
      simp only [Builtin.copy_, e0, v0, v1, Sem.run_bind, run_underlying h1, Result.andThen_ok, hsl, hk0, e2, hsrc.1, hst, Sem.run_pure, goInt]
    refine ⟨_, _, ?_, rfl, setRow_st hs hkk hL⟩
    simp [execOp, ho, resolve, he _ _ hx, he _ _ hy, invoke, builtin, hr]
  · rintro v' w' ⟨rfl, hs'⟩
    exact hk _ hs'
def fB (l : List UInt8) : ByteArray := ⟨l.toArray⟩
theorem po_bytesStr {S D e : TypeId} {x : Operand} {b p cap : Nat} {l : List UInt8} (hS : P.underlying S = some (.slice e)) (he : P.underlying e = some (.int .u8)) (hD : P.underlying D = some .string)
    (hx : ev ρ x = some (.slice (some ⟨b, p, none⟩) l.length cap)) (hc : ∀ i u, l[i]? = some u → w.cell? ⟨b, p + i, none⟩ = some (.int .u8 (u.toNat : Nat))) : PO P (.convert S D x) ρ w (.string (fB l)) := by
  intro o ee ho hee
  have hr := run_convert_bytes_arg (P := P) w S e hS he b p l.length cap (l.map fun u => (u.toNat : Int)) (by simp) (fun i hi => by
    rw [hc i l[i] (List.getElem?_eq_getElem hi)]
    simp [List.getD, List.getElem?_eq_getElem hi]) D hD
  have hb : strOfNums (l.map fun u => (u.toNat : Int)) = fB l := by
    simp only [strOfNums, fB, List.map_map]
    congr 2
    conv => rhs; rw [← List.map_id l]
    apply List.map_congr_left
    intro u _
    simp
  rw [hb] at hr
  simp [execOp, ho, hee _ _ hx, hr]
theorem po_bytesStr_nil {S D e : TypeId} {x : Operand} {l c : Nat} (hS : P.underlying S = some (.slice e)) (he : P.underlying e = some (.int .u8)) (hD : P.underlying D = some .string)
    (hx : ev ρ x = some (.slice none l c)) : PO P (.convert S D x) ρ w (.string (fB [])) := by
  intro o ee ho hee
  have hr := run_convert_bytes_nil (P := P) w S e hS he l c D hD
  simp [execOp, ho, hee _ _ hx, hr]
  rfl
end
end Go.Proofs.YtgpfjlfkaoffeaaGreatDoor
namespace Go.Proofs.YtgpfjlfkaoffeaaGreatDoor
open Go
section
variable {P : Program} {ops : Array Oper} {Q : Exit → Act → World → Prop} {F : World → Prop} {pend : List Nat}
def lateAt (ops : Array Oper) (pend : List Nat) (i : Nat) : Bool :=
  match ops[i]? with
  | some o => pend.all fun p => o.after.any fun e => Region.binds .any e && e.on == p
  | none => false
def AnyE (P : Program) (ops : Array Oper) (Q : Exit → Act → World → Prop) (F : World → Prop) (pend : List Nat) : Nat → Array Bool → Act → World → Prop
  | 0, listed, a, w => Region.ready .any ops listed = [] ∧ Q .normal a w
  | fuel + 1, listed, a, w =>
    (Region.ready .any ops listed = [] → Q .normal a w) ∧
    ∀ i ∈ Region.ready .any ops listed, wpOp P ops Q i (fun a' w' => (w' = w ∨ (lateAt ops pend i = false → F w')) ∧ AnyE P ops Q F pend fuel (listed.setIfInBounds i true) a' w') a w
theorem any_of_anyE : ∀ (fuel : Nat) (listed : Array Bool) (a : Act) (w : World), AnyE P ops Q F pend fuel listed a w → wpAny P .any ops Q fuel listed a w
  | 0, _, _, _, h => h
  | fuel + 1, _, _, _, h => ⟨h.1, fun i hi => wpOp_mono (fun a' w' h' => any_of_anyE fuel _ a' w' h'.2) (h.2 i hi)⟩
def InF (pend : List Nat) (F : World → Prop) (i : Nat) (w : World) : Prop := i ∈ pend → F w
theorem anyE_first {i : Nat} {oi : Oper} {v : Value} (hi : ops[i]? = some oi) (hsel : ∀ (j : Nat) (o : Oper) cs b, ops[j]? = some o → o.op ≠ .select cs b)
    (hQ : ∀ c a w, Q (.panic c) (a.put oi.dst v) w → Q (.panic c) a w) :
    ∀ (fuel : Nat) (listed : Array Bool) (a : Act) (w : World),
      (∀ j oj, ops[j]? = some oj → j ≠ i → listed.getD j true = false → (∀ e ∈ oj.after, Region.binds .any e = true → e.on ≠ i) → oi.apart ops oj = true) →
      i ∈ Region.ready .any ops listed → YieldsIf P ops (InF pend F i) oi v a → InF pend F i w →
      AnyE P ops Q F pend fuel (listed.setIfInBounds i true) (a.put oi.dst v) w → AnyE P ops Q F pend (fuel + 1) listed a w := by
  intro fuel
  induction fuel with
  | zero =>
    intro listed a w _ hr hy hS H
    refine ⟨fun h => (by rw [h] at hr; cases hr), fun j hj => ?_⟩
    by_cases hji : j = i
    · subst hji; exact hy.wpOp hi hS ⟨.inl rfl, H⟩
    · have := ready_mono hj hji
      rw [H.1] at this
      cases this
  | succ fuel ih =>
    intro listed a w hfree hr hy hS H
    refine ⟨fun h => (by rw [h] at hr; cases hr), fun j hj => ?_⟩
    by_cases hji : j = i
    · subst hji; exact hy.wpOp hi hS ⟨.inl rfl, H⟩
    · have h1 := H.2 j (ready_mono hj hji)
      obtain ⟨hjun, oj, hoj, hall⟩ := mem_ready.1 hj
      have hiun := (mem_ready.1 hr).1
      have hnot : ∀ e ∈ oj.after, Region.binds .any e = true → e.on ≠ i := fun e he hb heq => by
        have h1 := hall e he hb
        rw [heq] at h1
        rcases Nat.lt_or_ge i listed.size with h' | h'
        · simp [h'] at hiun h1; rw [hiun] at h1; cases h1
        · simp [Array.getElem?_eq_none h'] at h1
      have h2 := wpOp_putIf hoj (hfree j oj hoj hji hjun hnot) (fun cs b => hsel i oi cs b hi) (fun cs b => hsel j oj cs b hoj) hQ hy h1
      have hfree' : ∀ k ok, ops[k]? = some ok → k ≠ i → (listed.setIfInBounds j true).getD k true = false →
          (∀ e ∈ ok.after, Region.binds .any e = true → e.on ≠ i) → oi.apart ops ok = true := fun k ok hk hki hun hno => by
        refine hfree k ok hk hki ?_ hno
        by_cases hjk : j = k
        · subst hjk; exact hjun
        · rw [getD_set_ne true hjk] at hun; exact hun
      refine wpOp_mono ?_ h2
      rintro a' w' ⟨hy', hF', H'⟩
      rw [Array.setIfInBounds_comm _ _ (Ne.symm hji)] at H'
      have hS' : InF pend F i w' := fun hp => by
        rcases hF' with rfl | hF'
        · exact hS hp
        · refine hF' ?_
          simp only [lateAt, hoj]
          rw [List.all_eq_false]
          refine ⟨i, hp, ?_⟩
          rw [Array.any_eq_true']
          rintro ⟨e, he, hb⟩
          simp only [Bool.and_eq_true, beq_iff_eq] at hb
          exact hnot e he hb.1 hb.2
      exact ⟨hF', ih (listed.setIfInBounds j true) a' w' hfree' (ready_mono hr (Ne.symm hji)) hy' hS' H'⟩
end
def SW (w w' : World) : Prop := w'.heap = w.heap ∧ w'.os = w.os ∧ w'.tape = w.tape ∧ w'.output = w.output
theorem SW.refl (w : World) : SW w w := ⟨rfl, rfl, rfl, rfl⟩
theorem SW.st {w0 : Base} {w w' : World} {L : List (Nat × Obj)} (h : SW w w') (hs : St w0 w L) : St w0 w' L := hs.same h.1 h.2.1 h.2.2.1 h.2.2.2
def nQ (n : Nat) (K : Env → World → Prop) : Exit → Act → World → Prop
  | .normal, a, w => ∃ ρ, Fr n a ρ ∧ K ρ w
  | _, _, _ => False
@[irreducible] def AW (P : Program) (n : Nat) (ops : Array Oper) (F : World → Prop) (pend : List Nat) (K : Env → World → Prop) (fuel : Nat) (listed : Array Bool) (ρ : Env) (w : World) : Prop :=
  ∀ a, Fr n a ρ → AnyE P ops (nQ n K) F pend fuel listed a w
section
variable {P : Program} {n : Nat} {ops : Array Oper} {F : World → Prop} {pend : List Nat} {K : Env → World → Prop} {ρ : Env} {w : World} {fuel : Nat} {listed : Array Bool}
theorem e_draw {id : Nat} {l : List Oper} {Q : QE} (F : World → Prop) (pend : List Nat) (hm : P.follows .mixedOrders = true)
    (h : ∀ w1, SW w w1 → AW P n l.toArray F pend (fun ρ' w' => Q .normal ρ' w') l.length (Array.replicate l.length false) ρ w1) : EW P n (.region id l.toArray true) Q ρ w := by
  unfold EW
  intro a ha
  have h1 := h w.drew ⟨rfl, rfl, rfl, rfl⟩
  unfold AW at h1
  have h2 := h1 a ha
  have e1 : l.toArray.size = l.length := by simp
  have h3 : (Code.region id l.toArray true).wp P (nQ n fun ρ' w' => Q .normal ρ' w') a w := wp_region_any hm (any_of_anyE _ _ _ _ (by rw [e1]; exact h2))
  refine wp_mono h3 ?_
  rintro e a' w' q
  cases e with
  | normal => exact q
  | exit i => exact q.elim
  | goto l => exact q.elim
  | ret => exact q.elim
  | panic c => exact q.elim
  | outgrown => exact q.elim
theorem bV {id : Nat} {l : List Oper} {Q : QE} {w0 : Base} {L : List (Nat × Obj)} (hs : St w0 w L) (pend : List Nat) (hm : P.follows .mixedOrders = true)
    (h : ∀ w1, St w0 w1 L → AW P n l.toArray (fun w2 => St w0 w2 L) pend (fun ρ' w' => Q .normal ρ' w') l.length (Array.replicate l.length false) ρ w1) : EW P n (.region id l.toArray true) Q ρ w :=
  e_draw _ pend hm fun w1 hw1 => h w1 (hw1.st hs)
theorem bS (hr : Region.ready .any ops listed = []) (h : K ρ w) : AW P n ops F pend K fuel listed ρ w := by
  unfold AW
  intro a ha
  cases fuel with
  | zero => exact ⟨hr, ρ, ha, h⟩
  | succ k => exact ⟨fun _ => ⟨ρ, ha, h⟩, by rw [hr]; simp⟩
def mayTake (ops : Array Oper) (listed : Array Bool) (i : Nat) : Bool := Region.noSelect ops && Region.free .any ops listed i && (Region.ready .any ops listed).contains i
theorem a_take_gen (i : Nat) {oi : Oper} {v : Value} (hi : ops[i]? = some oi) (hm : mayTake ops listed i = true) (hF : i ∈ pend → F w) (hy : ∀ a, Fr n a ρ → YieldsIf P ops (InF pend F i) oi v a)
    (hput : ∀ a, Fr n a ρ → ∃ ρ', Fr n (a.put oi.dst v) ρ' ∧ AW P n ops F pend K fuel (listed.setIfInBounds i true) ρ' w) : AW P n ops F pend K (fuel + 1) listed ρ w := by
  simp only [mayTake, Bool.and_eq_true] at hm
  unfold AW
  intro a ha
  obtain ⟨ρ', hf, hk⟩ := hput a ha
  unfold AW at hk
  exact anyE_first hi (Region.noSelect_spec hm.1.1) (fun _ _ _ h => h) fuel listed a w (Region.free_spec hi hm.1.2) (by simpa using hm.2) (hy a ha) hF (hk _ hf)
theorem a_take {d : Tmp} {op : Op} {ty : TypeId} {pos : String} {af : Array Edge} {v : Value} {l : List Oper} (i : Nat) (hi : lget l i = some ⟨some d, op, ty, pos, af, none⟩) (hm : mayTake l.toArray listed i = true)
    (hpw : ∀ w', (i ∈ pend → F w') → PO P op ρ w' v) (hF : i ∈ pend → F w) (hd : Nat.blt d n = true)
    (h : AW P n l.toArray F pend K fuel (listed.setIfInBounds i true) (eH ρ d v) w) : AW P n l.toArray F pend K (fuel + 1) listed ρ w := by
  rw [lget_eq] at hi
  refine a_take_gen i (by simpa using hi) hm hF (fun a ha => .inl ⟨rfl, fun w' hw' => hpw w' hw' _ _ rfl ha.ag⟩) (fun a ha => ⟨_, ha.put hd, h⟩)
theorem aK {d : Tmp} {op : Op} {ty : TypeId} {pos : String} {af : Array Edge} {v : Value} {l : List Oper} (i : Nat) (hi : lget l i = some ⟨some d, op, ty, pos, af, none⟩) (hm : mayTake l.toArray listed i = true)
    (hp : ∀ w', PO P op ρ w' v) (hni : pend.contains i = false) (hd : Nat.blt d n = true)
    (h : AW P n l.toArray F pend K fuel (listed.setIfInBounds i true) (eH ρ d v) w) : AW P n l.toArray F pend K (fuel + 1) listed ρ w :=
  a_take i hi hm (fun w' _ => hp w') (fun hm => by simp at hni; exact (hni hm).elim) hd h
theorem bF {d : Tmp} {op : Op} {ty : TypeId} {pos : String} {af : Array Edge} {v : Value} {l : List Oper} (i : Nat) (hi : lget l i = some ⟨some d, op, ty, pos, af, none⟩) (hm : mayTake l.toArray listed i = true)
    (hF : F w) (hin : pend.contains i = true) (hp : ∀ w', F w' → PO P op ρ w' v) (hd : Nat.blt d n = true)
    (h : AW P n l.toArray F pend K fuel (listed.setIfInBounds i true) (eH ρ d v) w) : AW P n l.toArray F pend K (fuel + 1) listed ρ w :=
  a_take i hi hm (fun w' hw' => hp w' (hw' (by simpa using hin))) (fun _ => hF) hd h
theorem cK {d j t : Tmp} {op : Op} {ty : TypeId} {pos : String} {af : Array Edge} {v : Value} {l : List Oper} {b want : Bool} (i : Nat) (hi : lget l i = some ⟨some d, op, ty, pos, af, some (j, want)⟩) (hm : mayTake l.toArray listed i = true)
    (hj : guardOf l.toArray j = some t) (ht : ρ t = some (.bool b)) (hb : b = want) (hF : i ∈ pend → F w) (hp : ∀ w', (i ∈ pend → F w') → PO P op ρ w' v) (hd : Nat.blt d n = true)
    (h : AW P n l.toArray F pend K fuel (listed.setIfInBounds i true) (eH ρ d v) w) : AW P n l.toArray F pend K (fuel + 1) listed ρ w := by
  rw [lget_eq] at hi
  refine a_take_gen i (by simpa using hi) hm hF (fun a ha => .inl ⟨?_, fun w' hw' => hp w' hw' _ _ rfl ha.ag⟩) (fun a ha => ⟨_, ha.put hd, h⟩)
  rw [wanted_of (b := b) (o := ⟨some d, op, ty, pos, af, some (j, want)⟩) ha rfl hj ht]; simp [hb]
theorem a_gskip {d j t : Tmp} {op : Op} {ty : TypeId} {pos : String} {af : Array Edge} {l : List Oper} {b want : Bool} (i : Nat) (hi : lget l i = some ⟨some d, op, ty, pos, af, some (j, want)⟩) (hm : mayTake l.toArray listed i = true)
    (hj : guardOf l.toArray j = some t) (ht : ρ t = some (.bool b)) (hb : b = !want) (hF : i ∈ pend → F w) (hd : Nat.blt d n = true)
    (h : AW P n l.toArray F pend K fuel (listed.setIfInBounds i true) (eH ρ d undef) w) : AW P n l.toArray F pend K (fuel + 1) listed ρ w := by
  rw [lget_eq] at hi
  refine a_take_gen i (by simpa using hi) hm hF (fun a ha => .inr ⟨?_, rfl⟩) (fun a ha => ⟨_, ha.put hd, h⟩)
  rw [wanted_of (b := b) (o := ⟨some d, op, ty, pos, af, some (j, want)⟩) ha rfl hj ht]; subst hb; cases want <;> simp
theorem wpOp_of_ow {i : Nat} {o : Oper} {Q : Exit → Act → World → Prop} {K' : Act → World → Prop} {a : Act} {K : Env → World → Prop} (hi : ops[i]? = some o) (hg : o.guard = none) (ha : Fr n a ρ) (h : OW P n o K ρ w)
    (hk : ∀ a' w', (∃ ρ', Fr n a' ρ' ∧ K ρ' w') → K' a' w') : wpOp P ops Q i K' a w := by
  unfold OW at h
  unfold wpOp
  simp only [hi]
  rw [if_pos (by simp [Region.wanted, hg])]
  exact .inl (h a Q K' ha hk)
theorem bP {d : Option Tmp} {op : Op} {ty : TypeId} {pos : String} {af : Array Edge} {l : List Oper} (i : Nat) (hr : Region.ready .any l.toArray listed = [i]) (hi : lget l i = some ⟨d, op, ty, pos, af, none⟩)
    (h : OW P n ⟨d, op, ty, pos, af, none⟩ (fun ρ' w' => (lateAt l.toArray pend i = false → F w') ∧ AW P n l.toArray F pend K fuel (listed.setIfInBounds i true) ρ' w') ρ w) :
    AW P n l.toArray F pend K (fuel + 1) listed ρ w := by
  unfold AW
  rw [lget_eq] at hi
  intro a ha
  refine ⟨fun h0 => absurd (hr.symm.trans h0) (by simp), fun j hj => ?_⟩
  rw [hr] at hj
  simp at hj
  subst hj
  refine wpOp_of_ow (by simpa using hi) rfl ha h ?_
  rintro a' w' ⟨ρ', hf, hl, hk⟩
  unfold AW at hk
  exact ⟨.inr hl, hk _ hf⟩
theorem a_two {d d' : Option Tmp} {op op' : Op} {ty ty' : TypeId} {pos pos' : String} {af af' : Array Edge} {l : List Oper} (i i' : Nat) (hr : Region.ready .any l.toArray listed = [i, i'])
    (hi : lget l i = some ⟨d, op, ty, pos, af, none⟩) (hi' : lget l i' = some ⟨d', op', ty', pos', af', none⟩)
    (h : OW P n ⟨d, op, ty, pos, af, none⟩ (fun ρ' w' => (lateAt l.toArray pend i = false → F w') ∧ AW P n l.toArray F pend K fuel (listed.setIfInBounds i true) ρ' w') ρ w)
    (h' : OW P n ⟨d', op', ty', pos', af', none⟩ (fun ρ' w' => (lateAt l.toArray pend i' = false → F w') ∧ AW P n l.toArray F pend K fuel (listed.setIfInBounds i' true) ρ' w') ρ w) :
    AW P n l.toArray F pend K (fuel + 1) listed ρ w := by
  unfold AW
  rw [lget_eq] at hi hi'
  intro a ha
  refine ⟨fun h0 => absurd (hr.symm.trans h0) (by simp), fun j hj => ?_⟩
  rw [hr] at hj
  simp at hj
  rcases hj with rfl | rfl
  · refine wpOp_of_ow (by simpa using hi) rfl ha h ?_
    rintro a' w' ⟨ρ', hf, hl, hk⟩
    unfold AW at hk
    exact ⟨.inr hl, hk _ hf⟩
  · refine wpOp_of_ow (by simpa using hi') rfl ha h' ?_
    rintro a' w' ⟨ρ', hf, hl, hk⟩
    unfold AW at hk
    exact ⟨.inr hl, hk _ hf⟩
theorem dI {d : Tmp} {op : Op} {ty : TypeId} {pos : String} {af : Array Edge} {v : Value} {l : List Oper} (i : Nat) (hi : lget l i = some ⟨some d, op, ty, pos, af, none⟩)
    (hp : ∀ w', PO P op ρ w' v) (hni : pend.contains i = false) (hd : Nat.blt d n = true)
    (h : AW P n l.toArray F pend K fuel (listed.setIfInBounds i true) (eH ρ d v) w) (hm : mayTake l.toArray listed i = true := by decide +kernel) : AW P n l.toArray F pend K (fuel + 1) listed ρ w := aK i hi hm hp hni hd h
theorem dJ {d : Tmp} {op : Op} {ty : TypeId} {pos : String} {af : Array Edge} {v : Value} {l : List Oper} (i : Nat) (hi : lget l i = some ⟨some d, op, ty, pos, af, none⟩)
    (hF : F w) (hin : pend.contains i = true) (hp : ∀ w', F w' → PO P op ρ w' v) (hd : Nat.blt d n = true)
    (h : AW P n l.toArray F pend K fuel (listed.setIfInBounds i true) (eH ρ d v) w) (hm : mayTake l.toArray listed i = true := by decide +kernel) : AW P n l.toArray F pend K (fuel + 1) listed ρ w := bF i hi hm hF hin hp hd h
theorem dK {d j t : Tmp} {op : Op} {ty : TypeId} {pos : String} {af : Array Edge} {v : Value} {l : List Oper} {b want : Bool} (i : Nat) (hi : lget l i = some ⟨some d, op, ty, pos, af, some (j, want)⟩)
    (hj : guardOf l.toArray j = some t) (ht : ρ t = some (.bool b)) (hb : b = want) (hF : i ∈ pend → F w) (hp : ∀ w', (i ∈ pend → F w') → PO P op ρ w' v) (hd : Nat.blt d n = true)
    (h : AW P n l.toArray F pend K fuel (listed.setIfInBounds i true) (eH ρ d v) w) (hm : mayTake l.toArray listed i = true := by decide +kernel) : AW P n l.toArray F pend K (fuel + 1) listed ρ w := cK i hi hm hj ht hb hF hp hd h
theorem dL {d : Option Tmp} {op : Op} {ty : TypeId} {pos : String} {af : Array Edge} {l : List Oper} (i : Nat) (hi : lget l i = some ⟨d, op, ty, pos, af, none⟩)
    (h : OW P n ⟨d, op, ty, pos, af, none⟩ (fun ρ' w' => (lateAt l.toArray pend i = false → F w') ∧ AW P n l.toArray F pend K fuel (listed.setIfInBounds i true) ρ' w') ρ w) (hr : Region.ready .any l.toArray listed = [i] := by decide +kernel) :
    AW P n l.toArray F pend K (fuel + 1) listed ρ w := bP i hr hi h
end
end Go.Proofs.YtgpfjlfkaoffeaaGreatDoor

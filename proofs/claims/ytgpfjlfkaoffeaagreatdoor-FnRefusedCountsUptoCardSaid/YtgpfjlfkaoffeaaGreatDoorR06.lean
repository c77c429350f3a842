/- The proof layer of this claim, eleventh part: parts of slices with bounds of their own, places in rows; parameters counted first. The proof layer of this claim, twelfth part: parts of blocks, rows begun empty. The proof layer of this claim, thirteenth part: struct values against themselves, function values with captured values, new maps. What packing makes, in plain lists. Packing, in plain lists: names, label by label. Packing, in plain lists: what is written depends on what stands before by its length alone. Packing, in plain lists: how much is written. -/
import Derived.Test.YtgpfjlfkaoffeaaGreatDoorR05
import Derived.Laws.StructEq
import Derived.WideMake
import Derived.Test.YtgpfjlfkaoffeaaGreatDoorR04
set_option linter.all false
namespace Go.Proofs.YtgpfjlfkaoffeaaGreatDoor
open Go
section
variable {P : Program} {ρ : Env} {w : World}
theorem sliceAddr0 (b p cap k : Nat) : sliceAddr (some ⟨b, p, none⟩) 0 cap k = some ⟨b, p, none⟩ := by
  unfold sliceAddr; split <;> simp [add_at]
theorem sliceAddr_at (b p l cap : Nat) : sliceAddr (some ⟨b, p, none⟩) l cap 1 = some ⟨b, if cap = l then p else p + l, none⟩ := by
  unfold sliceAddr; split <;> simp [add_at]
theorem po_head {T e : TypeId} {x xh : Operand} {k : IntKind} {b p len cap : Nat} {hi : Int} (m : Nat) (hT : fK P T = some (e, 1)) (hx : ev ρ x = some (.slice (some ⟨b, p, none⟩) len cap)) (hh : ev ρ xh = some (.int k hi)) (h1 : hi = m) (h2 : m ≤ cap) :
    PO P (.slice T x none (some xh) none) ρ w (.slice (some ⟨b, p, none⟩) m cap) := by
  subst h1
  have h := po_slice (w := w) hT hx (.no _) (.yes _ hh (by omega)) (by omega) (by omega)
  rw [sliceAddr0, Int.toNat_natCast] at h
  exact h
theorem po_head3 {T e : TypeId} {x xh xm : Operand} {k k' : IntKind} {b p len cap : Nat} {hi mx : Int} (m : Nat) (hT : fK P T = some (e, 1)) (hx : ev ρ x = some (.slice (some ⟨b, p, none⟩) len cap)) (hh : ev ρ xh = some (.int k hi)) (hm : ev ρ xm = some (.int k' mx))
    (h1 : hi = m) (h2 : mx = m) (h3 : m ≤ cap) : PO P (.slice T x none (some xh) (some xm)) ρ w (.slice (some ⟨b, p, none⟩) m m) := by
  subst h1 h2
  intro o e' ho he
  obtain ⟨hS, i, hi', _⟩ := elemSize_spec hT
  have b1 : ∀ c, (Instr.sliceBound (e' xm) cap c).run P w = .ok m w := fun c => by
    simp [Instr.sliceBound, he _ _ hm, asIntOf]; intro h; omega
  have b2 : ∀ c, (Instr.sliceBound (e' xh) m c).run P w = .ok m w := fun c => by
    simp [Instr.sliceBound, he _ _ hh, asIntOf]
  have hr : (Instr.sliceBounds true len cap none (some (e' xh)) (some (e' xm))).run P w = .ok (0, m, m) w := by
    simp [Instr.sliceBounds, b1, b2]
  simp [execOp, ho, he _ _ hx, Instr.sliceAt, Instr.slice, run_underlying hS, hr, sizeOf, typeInfo, hi', add_at]
theorem po_tail {T e : TypeId} {x xl : Operand} {k : IntKind} {b p len cap : Nat} {lo : Int} (l : Nat) (hT : fK P T = some (e, 1)) (hx : ev ρ x = some (.slice (some ⟨b, p, none⟩) len cap)) (hl : ev ρ xl = some (.int k lo))
    (h1 : lo = l) (h2 : l ≤ len) (hc : len ≤ cap) : PO P (.slice T x (some xl) none none) ρ w (.slice (some ⟨b, if cap = l then p else p + l, none⟩) (len - l) (cap - l)) := by
  have h := po_tailR (w := w) l hT hx hl h1 h2 hc
  rwa [sliceAddr_at] at h
theorem eZ {S e : TypeId} {x y : Operand} {k b p len cap : Nat} {i : Int} {kk : IntKind} (n q : Nat) (hS : fK P S = some (e, k)) (hx : ev ρ x = some (.slice (some ⟨b, p, none⟩) len cap)) (hy : ev ρ y = some (.int kk i))
    (hn : i = n) (hl : n < len) (hq : p + n * k = q) : PO P (.indexAddr S x y) ρ w (.pointer (some ⟨b, q, none⟩)) := by
  subst hn hq
  have h := po_ia (w := w) hS hx hy (by omega) (by omega)
  rw [Int.toNat_natCast] at h
  exact h
end
def par1 (b : List UInt8) (i e n tot : Nat) : Option (Nat × Nat) :=
  if _h : i < e then
    if i + 4 ≤ b.length ∧ ¬ (0 < n ∧ w16 b i = 0) ∧ i + 4 + w16 b (i + 2) ≤ e then par1 b (i + 4 + w16 b (i + 2)) e (n + 1) (tot + w16 b (i + 2))
    else none
  else if i = e then some (n, tot) else none
termination_by e - i
decreasing_by omega
theorem par1_none {b : List UInt8} {i e n tot : Nat} (h : par1 b i e n tot = none) : ∀ acc : List fU, acc.length = n → parsS b i e acc = none := by
  fun_induction par1 b i e n tot with
  | case1 i n tot hi hc ih =>
    intro acc hacc
    rw [parsS, dif_pos hi]
    split
    · exact ih h _ (by simp [hacc])
    · rfl
  | case2 i n tot hi hc =>
    intro acc hacc
    rw [parsS, dif_pos hi]
    split
    · rename_i hc2
      refine parsS_over ?_
      rcases Nat.lt_or_ge e (i + 4 + w16 b (i + 2)) with h' | h'
      · exact h'
      · refine absurd ⟨hc2.1, ?_, h'⟩ hc
        rintro ⟨h0, hk⟩
        refine hc2.2.2 ⟨?_, hk⟩
        intro ha; subst ha; simp at hacc; omega
    · rfl
  | case3 _ _ _ => cases h
  | case4 i n tot hi hc =>
    intro acc _
    exact parsS_over (by omega)
theorem par1_some {b : List UInt8} {i e n tot n' t' : Nat} (h : par1 b i e n tot = some (n', t')) : n ≤ n' ∧ tot ≤ t' ∧ i ≤ e := by
  fun_induction par1 b i e n tot with
  | case1 i n tot hi hc ih => have := ih h; omega
  | case2 i n tot hi hc => cases h
  | case3 _ _ _ => cases h; omega
  | case4 i n tot hi hc => cases h
theorem par1_more {b : List UInt8} {i e n tot n' t' : Nat} (h : par1 b i e n tot = some (n', t')) (hn : n < n') :
    i < e ∧ i + 4 ≤ b.length ∧ ¬ (0 < n ∧ w16 b i = 0) ∧ i + 4 + w16 b (i + 2) ≤ e ∧ par1 b (i + 4 + w16 b (i + 2)) e (n + 1) (tot + w16 b (i + 2)) = some (n', t') := by
  rw [par1] at h
  split at h
  · rename_i hi
    split at h
    · rename_i hc
      exact ⟨hi, hc.1, hc.2.1, hc.2.2, h⟩
    · cases h
  · split at h
    · cases h; omega
    · cases h
theorem par1_end {b : List UInt8} {i e n tot t' : Nat} (h : par1 b i e n tot = some (n, t')) : i = e ∧ tot = t' := by
  rw [par1] at h
  split at h
  · split at h
    · have := (par1_some h).1; omega
    · cases h
  · split at h
    · cases h; exact ⟨by assumption, rfl⟩
    · cases h
theorem parsS_step {b : List UInt8} {i e : Nat} {acc : List fU} (hi : i < e) (h4 : i + 4 ≤ b.length) (hk : ¬ (0 < acc.length ∧ w16 b i = 0)) (hf : i + 4 + w16 b (i + 2) ≤ b.length) :
    parsS b i e acc = parsS b (i + 4 + w16 b (i + 2)) e (acc ++ [⟨w16 b i, seg b (i + 4) (w16 b (i + 2))⟩]) := by
  conv => lhs; rw [parsS]
  rw [dif_pos hi, if_pos]
  refine ⟨h4, hf, ?_⟩
  rintro ⟨h0, h1⟩
  exact hk ⟨List.length_pos_iff.2 h0, h1⟩
theorem parsS_short {b : List UInt8} {i e : Nat} {acc : List fU} (hi : i < e) (hf : b.length < i + 4 + w16 b (i + 2)) : parsS b i e acc = none := by
  rw [parsS, dif_pos hi, if_neg (by omega)]
theorem parsS_end {b : List UInt8} {e : Nat} {acc : List fU} : parsS b e e acc = some acc := by rw [parsS, dif_neg (by omega), if_pos rfl]
theorem set2_take {l : List Value} {j : Nat} {a b : Value} (h : 2 * j + 2 ≤ l.length) : ((l.set (2 * j) a).set (2 * j + 1) b).take (2 * (j + 1)) = l.take (2 * j) ++ [a, b] := by
  apply List.ext_getElem?
  intro i
  simp only [List.getElem?_take, List.getElem?_set, List.length_set, List.getElem?_append, List.length_take]
  have hm : min (2 * j) l.length = 2 * j := by omega
  rw [hm]
  by_cases h1 : i < 2 * j
  · rw [if_pos (by omega), if_pos h1, if_neg (by omega), if_neg (by omega), if_pos h1]
  · rw [if_neg h1]
    by_cases h2 : i = 2 * j
    · subst h2
      rw [if_pos (by omega), if_neg (by omega), if_pos rfl, if_pos (by omega), Nat.sub_self]; rfl
    · by_cases h3 : i = 2 * j + 1
      · subst h3
        rw [if_pos (by omega), if_pos rfl, if_pos (by omega)]
        have : 2 * j + 1 - 2 * j = 1 := by omega
        rw [this]; rfl
      · rw [if_neg (by omega)]
        have : i - 2 * j = (i - 2 * j - 2) + 2 := by omega
        rw [this]; rfl
def PP (vb : Nat) (bytes : List UInt8) (p : fU) (c : List Value) : Prop :=
  ∃ q, c = [.int .u16 p.key, .slice (some ⟨vb, q, none⟩) p.data.length p.data.length] ∧ (p.data = [] ∨ (q + p.data.length ≤ bytes.length ∧ seg bytes q p.data.length = p.data))
theorem PP.mono {vb : Nat} {bytes news : List UInt8} {p : fU} {c : List Value} (h : PP vb bytes p c) : PP vb (bytes ++ news) p c := by
  obtain ⟨q, h1, h2⟩ := h
  refine ⟨q, h1, h2.imp id fun ⟨h3, h4⟩ => ⟨by simp; omega, ?_⟩⟩
  unfold seg at *
  rw [List.drop_append_of_le_length (by omega), List.take_append_of_le_length (by simp; omega)]
  exact h4
theorem PP.done {V : Vw} {vb : Nat} {bytes : List UInt8} {E : TypeId} {fz : Nat × Nat} {p : fU} {c : List Value} (h : PP vb bytes p c) (hv : V vb = some (.cells (bytes.map eA).toArray E fz)) : RPair V p c := by
  obtain ⟨q, h1, h2⟩ := h
  refine ⟨_, h1, by simp, .inr ⟨vb, q, p.data.length, rfl, Nat.le_refl _, fun j u hu => ?_⟩⟩
  obtain ⟨hj, rfl⟩ := getElem_byte hu
  rcases h2 with h2 | ⟨h3, h4⟩
  · rw [h2] at hj; simp at hj
  · refine Vw.cell_of hv ?_
    rw [← h4, byteAt_seg hj]
    have hlt : q + j < bytes.length := by omega
    simp [eA, eB, List.getD, List.getElem?_eq_getElem hlt]
section
variable {P : Program} {n : Nat} {ρ : Env} {w0 : Base} {w : World} {L : List (Nat × Obj)} {K : Env → World → Prop} {ty : TypeId} {pos : String} {af : Array Edge} {g : Option (Nat × Bool)}
theorem o_storeHd {T : TypeId} {x y : Operand} {kk k b : Nat} {a r vs : List Value} {E : TypeId} {L' : List (Nat × Obj)} (hs : St w0 w L) (hT : eK P T = some (true, kk))
    (hx : ev ρ x = some (.pointer (some ⟨b, 0, none⟩))) (hy : ev ρ y = some (.agg vs.toArray)) (hk : lget L k = some (b, .cells (a ++ r).toArray E (0, 0))) (ha : a.length = kk) (hvs : vs.length = kk) (hf : Flat vs)
    (hL : lset L k (b, .cells (vs ++ r).toArray E (0, 0)) = some L') (hK : ∀ w', St w0 w' L' → K ρ w') : OW P n ⟨none, .store T x y, ty, pos, af, g⟩ K ρ w := by
  refine o_storeA (p := 0) hs hT hx hy hk hvs (by simp; omega) hf ?_ hK
  have : (a ++ r).take 0 ++ vs ++ (a ++ r).drop (0 + kk) = vs ++ r := by
    rw [List.take_zero, List.nil_append, Nat.zero_add, ← ha, List.drop_left]
  rw [this]; exact hL
theorem ld_hd {T : TypeId} {kk b : Nat} {a r : List Value} {E : TypeId} {fz : Nat × Nat} (hk : eK P T = some (true, kk)) (hb : w.heap[b]? = some (.cells (a ++ r).toArray E fz)) (ha : a.length = kk) :
    (loadVar T ⟨b, 0, none⟩).run P w = .ok (.agg a.toArray) w := by
  have h := ld_agg (p := 0) hk hb (by simp; omega)
  have : ((a ++ r).drop 0).take kk = a := by rw [List.drop_zero, ← ha, List.take_left]
  rw [this] at h
  exact h
end
theorem St.less {w0 w : World} {V0 V : Vw} {L : List (Nat × Obj)} (h : St ⟨w0, V0, V⟩ w L) : St ⟨w0, V0, V0⟩ w L :=
  ⟨h.os, h.tape, h.output, h.size, h.own, h.unf, h.nodup, h.old, h.fro, fun b o hb => h.keep b o (h.grow0 b o hb), fun _ _ hb => hb, fun _ _ hb => .inl hb⟩
end Go.Proofs.YtgpfjlfkaoffeaaGreatDoor
namespace Go.Proofs.YtgpfjlfkaoffeaaGreatDoor
open Go
section
variable {P : Program} {ρ : Env} {w : World} {w0 : Base} {L : List (Nat × Obj)}
theorem ld_part {T : TypeId} {kk b p : Nat} {pre a post : List Value} {E : TypeId} {fz : Nat × Nat} (hk : eK P T = some (true, kk)) (hb : w.heap[b]? = some (.cells (pre ++ (a ++ post)).toArray E fz)) (hp : pre.length = p) (ha : a.length = kk) :
    (loadVar T ⟨b, p, none⟩).run P w = .ok (.agg a.toArray) w := by
  have h := ld_agg (p := p) hk hb (by simp; omega)
  have : ((pre ++ (a ++ post)).drop p).take kk = a := by rw [← hp, List.drop_left, ← ha, List.take_left]
  rw [this] at h
  exact h
theorem ld_tl {T : TypeId} {kk b p : Nat} {pre a : List Value} {E : TypeId} {fz : Nat × Nat} (hk : eK P T = some (true, kk)) (hb : w.heap[b]? = some (.cells (pre ++ a).toArray E fz)) (hp : pre.length = p) (ha : a.length = kk) :
    (loadVar T ⟨b, p, none⟩).run P w = .ok (.agg a.toArray) w := ld_part (post := []) hk (by rw [List.append_nil]; exact hb) hp ha
theorem po_slice_arrH {T e : TypeId} {x xh : Operand} {n b p k : Nat} {kk : IntKind} {hi : Int} (m : Nat) (hT : arrSize P T = some (n, e, k)) (h0 : 0 < n) (hx : ev ρ x = some (.pointer (some ⟨b, p, none⟩))) (hh : ev ρ xh = some (.int kk hi)) (h1 : hi = m) (h2 : m ≤ n) :
    PO P (.slice T x none (some xh) none) ρ w (.slice (some ⟨b, p, none⟩) m n) := by
  subst h1
  have h := po_slice_arr (w := w) hT hx (.no _) (.yes _ hh (by omega)) (by omega) (by omega)
  rw [if_neg (by omega)] at h
  simpa using h
theorem Sl.empty {e : TypeId} {size b : Nat} (hs : St w0 w ((b, .cells [].toArray e (0, 0)) :: L)) (hb : w0.heap.size ≤ b) : Sl e size w0 w L (.slice (some ⟨b, 0, none⟩) 0 0) 0 [] :=
  ⟨by simp, .inr ⟨b, 0, [], rfl, by simp, Nat.le_refl _, by decide, hb, hs⟩⟩
end
theorem ld_cells {P : Program} {w : World} {T : TypeId} {kk b p : Nat} {l : List Value} (hk : eK P T = some (true, kk)) (hl : l.length = kk) (h : ∀ j v, l[j]? = some v → w.cell? ⟨b, p + j, none⟩ = some v) :
    (loadVar T ⟨b, p, none⟩).run P w = .ok (.agg l.toArray) w := by
  have h1 := run_loadCells_list (P := P) w ⟨b, p, none⟩ l (fun j v hv => by rw [add_at]; exact h j v hv)
  rw [hl] at h1
  simp [loadVar, kind_agg hk, kind_size hk, h1]
theorem fN {xs c : List Value} {k s i : Nat} {v : Value} (h : (xs.drop k).take s = c) (hi : c[i]? = some v) : xs[k + i]? = some v := by
  rw [← h, List.getElem?_take] at hi
  split at hi
  · simpa using hi
  · cases hi
def only (kind t : Nat) (r : fY) : fY :=
  match kind with
  | 1 => { kind := 1, data := r.data }
  | 8 => { kind := 8, data := r.data }
  | 2 => { kind := 2, host := r.host }
  | 3 => { kind := 3, host := r.host }
  | 5 => { kind := 5, host := r.host }
  | 6 => { kind := 6, n1 := r.n1, host := r.host }
  | 9 => { kind := 9, n1 := r.n1, n2 := r.n2, n3 := r.n3, host := r.host }
  | 4 => { kind := 4, host := r.host, box := r.box, n1 := r.n1, n2 := r.n2, n3 := r.n3, n4 := r.n4, n5 := r.n5 }
  | 7 => { kind := 7, texts := r.texts }
  | 10 => { kind := 10, pairs := r.pairs }
  | 11 => { kind := 11, n1 := r.n1, host := r.host, pairs := r.pairs }
  | 12 => { kind := 12, n1 := r.n1, host := r.host, pairs := r.pairs }
  | k => { kind := k, type := t, data := r.data }
theorem only_body {l : List UInt8} {i kind len t : Nat} {r : fY} (h : body l i kind len = some r) (h1 : 1 ≤ kind) (h2 : kind ≤ 13) : only kind t r = if kind = 13 then { r with type := t } else r := by
  unfold body at h
  split at h
  all_goals
    simp only [Option.map_eq_some_iff, Option.bind_eq_some_iff] at h
    repeat (obtain ⟨_, _, h⟩ := h)
  all_goals first
    | rfl
    | (have h13 : kind = 13 := by
         have h0 : kind = 1 ∨ kind = 2 ∨ kind = 3 ∨ kind = 4 ∨ kind = 5 ∨ kind = 6 ∨ kind = 7 ∨ kind = 8 ∨ kind = 9 ∨ kind = 10 ∨ kind = 11 ∨ kind = 12 ∨ kind = 13 := by omega
         rcases h0 with h | h | h | h | h | h | h | h | h | h | h | h | h <;> simp_all
       subst h13
       rfl)
def Small (r : fY) : Prop := r.data.length ≤ 65536 ∧ r.texts.length ≤ 65536 ∧ r.pairs.length ≤ 65536 ∧ ∀ p ∈ r.pairs, p.data.length ≤ 65536
theorem textsS_len {b : List UInt8} {i e : Nat} {acc l : List (List UInt8)} (h : textsS b i e acc = some l) : l.length ≤ acc.length + (e - i) := by
  fun_induction textsS b i e acc with
  | case1 i acc hi hc ih => have := ih h; simp at this; omega
  | case2 i acc hi hc => cases h
  | case3 i acc hi => cases h; omega
theorem optsS_len {b : List UInt8} {i e : Nat} {acc l : List fU} (h : optsS b i e acc = some l) (ha : ∀ p ∈ acc, p.data.length ≤ 65536) : l.length ≤ acc.length + (e - i) ∧ ∀ p ∈ l, p.data.length ≤ 65536 := by
  fun_induction optsS b i e acc with
  | case1 i acc hi hc ih =>
    have hw := w16_lt b (i + 2)
    have := ih h (fun p hp => by
      rcases List.mem_append.1 hp with hp | hp
      · exact ha p hp
      · simp at hp; subst hp; show (seg b (i + 4) (w16 b (i + 2))).length ≤ 65536; rw [seg_len hc.2]; omega)
    refine ⟨?_, this.2⟩
    have h1 := this.1
    simp at h1; omega
  | case2 i acc hi hc => cases h
  | case3 i acc hi => cases h; exact ⟨by omega, ha⟩
theorem parsS_len {b : List UInt8} {i e : Nat} {acc l : List fU} (h : parsS b i e acc = some l) (ha : ∀ p ∈ acc, p.data.length ≤ 65536) : l.length ≤ acc.length + (e - i) ∧ ∀ p ∈ l, p.data.length ≤ 65536 := by
  fun_induction parsS b i e acc with
  | case1 i acc hi hc ih =>
    have hw := w16_lt b (i + 2)
    have := ih h (fun p hp => by
      rcases List.mem_append.1 hp with hp | hp
      · exact ha p hp
      · simp at hp; subst hp; show (seg b (i + 4) (w16 b (i + 2))).length ≤ 65536; rw [seg_len hc.2.1]; omega)
    refine ⟨?_, this.2⟩
    have h1 := this.1
    simp at h1; omega
  | case2 i acc hi hc => cases h
  | case3 acc => cases h; exact ⟨by omega, ha⟩
  | case4 i acc hi hc => cases h
theorem nameS_lt {b : List UInt8} {i : Nat} {out : List UInt8} {jumps e : Nat} {o : List UInt8} {e' : Nat} (h : fS b i out jumps e = some (o, e')) : (jumps = 0 → i < e') ∧ (0 < jumps → e' = e) := by
  fun_induction fS b i out jumps e with
  | case1 i out jumps e hi h0 h1 => cases h
  | case2 i out jumps e hi h0 h1 =>
    simp only [Option.some.injEq, Prod.mk.injEq] at h
    obtain ⟨_, rfl⟩ := h
    refine ⟨fun hj => by rw [if_pos hj]; omega, fun hj => by rw [if_neg (by omega)]⟩
  | case4 i out jumps e hi h0 hc hl hd ih => exact ⟨fun hj => by have := (ih h).1 hj; omega, fun hj => (ih h).2 hj⟩
  | case6 i out jumps e hi h0 hc hc2 hl hj ih =>
    have h2 := (ih h).2 (by omega)
    refine ⟨fun hj' => by rw [h2]; split <;> omega, fun hj' => by rw [h2]; split <;> omega⟩
  | _ => cases h
theorem name_lt {b : List UInt8} {i : Nat} {o : List UInt8} {e : Nat} (h : name b i = some (o, e)) : i < e := (nameS_lt h).1 rfl
theorem body_small {l : List UInt8} {i kind len : Nat} {r : fY} (h : body l i kind len = some r) (hlen : len ≤ 65536) : Small r := by
  unfold body at h
  split at h
  all_goals
    simp only [Option.map_eq_some_iff, Option.bind_eq_some_iff] at h
  case h_1 | h_2 | h_13 =>
    obtain ⟨d, hd, rfl⟩ := h
    refine ⟨?_, Nat.zero_le _, Nat.zero_le _, fun _ h => by cases h⟩
    unfold rdBytes at hd
    split at hd
    · cases hd
      show (seg _ _ _).length ≤ _
      rw [seg_len (by assumption)]; omega
    · cases hd
  case h_9 =>
    obtain ⟨d, hd, rfl⟩ := h
    have := textsS_len hd
    exact ⟨Nat.zero_le _, by show d.length ≤ _; simp at this; omega, Nat.zero_le _, fun _ h => by cases h⟩
  case h_10 =>
    obtain ⟨d, hd, rfl⟩ := h
    have := optsS_len hd (fun _ h => by cases h)
    exact ⟨Nat.zero_le _, Nat.zero_le _, by show d.length ≤ _; have h1 := this.1; simp at h1; omega, this.2⟩
  case h_11 | h_12 =>
    obtain ⟨n1, _, x, hx, d, hd, rfl⟩ := h
    have := parsS_len hd (fun _ h => by cases h)
    have hlt := name_lt hx
    exact ⟨Nat.zero_le _, Nat.zero_le _, by show d.length ≤ _; have h1 := this.1; simp at h1; omega, this.2⟩
  all_goals
    repeat (obtain ⟨_, _, h⟩ := h)
    exact ⟨Nat.zero_le _, Nat.zero_le _, Nat.zero_le _, fun _ h => by cases h⟩
def GoodR (r : fY) : Prop := Small r ∧ ∀ t h, whole (only r.kind t r) h = whole r h
theorem body_good {l : List UInt8} {i kind len : Nat} {r : fY} (h : body l i kind len = some r) (hlen : len ≤ 65536) (h1 : 1 ≤ kind) (h2 : kind ≤ 13) (hk : r.kind = kind) : GoodR r := by
  refine ⟨body_small h hlen, fun t x => ?_⟩
  rw [hk, only_body h h1 h2]
  split <;> rfl
end Go.Proofs.YtgpfjlfkaoffeaaGreatDoor
namespace Go.Proofs.YtgpfjlfkaoffeaaGreatDoor
open Go
section
variable {P : Program} {w : World}
variable {ρ : Env}
theorem po_eqi {T T' : TypeId} {x y : Operand} {k : IntKind} {a : Int} (hx : ev ρ x = some (.int k a)) (hy : ev ρ y = some (.int k a)) : PO P (.binOp .eql T x y T') ρ w (.bool true) := by
  have h := bI (P := P) (w := w) (T := T) (T' := T') hx hy
  rwa [decide_eq_true rfl] at h
variable {n : Nat} {w0 : Base} {L : List (Nat × Obj)} {K : Env → World → Prop} {d : Tmp} {ty : TypeId} {pos : String} {af : Array Edge} {g : Option (Nat × Bool)}
theorem o_makeMap {t : TypeId} (hs : St w0 w L) (hd : Nat.blt d n = true) (hk : ∀ b w', w0.heap.size ≤ b → St w0 w' ((b, .map #[] 0) :: L) → K (eH ρ d (.map (some b))) w') :
    OW P n ⟨some d, .makeMap t none, ty, pos, af, g⟩ K ρ w := by
  refine o_val (F := fun v w' => v = .map (some w.heap.size) ∧ w' = w.alloc (.map #[] 0)) ?_ hd ?_
  · intro o e ho he
    refine ⟨_, _, ?_, rfl, rfl⟩
    simp only [execOp, ho, Option.map_none, Sem.run_bind, run_makeMap_plain, Result.andThen_ok, Sem.run_pure]
  · rintro v w' ⟨rfl, rfl⟩
    exact hk _ _ hs.size (hs.allocObj _ (unf_map _ _))
end
end Go.Proofs.YtgpfjlfkaoffeaaGreatDoor
namespace Go.Proofs.YtgpfjlfkaoffeaaGreatDoor
open Go
structure Ink where
  out : List UInt8 := []
  tbl : List (List UInt8 × Nat) := []
def Ink.put (w : Ink) (b : List UInt8) : Ink := { w with out := w.out ++ b }
def tblAt (t : List (List UInt8 × Nat)) (s : List UInt8) : Option Nat := (t.find? fun e => e.1 == s).map (·.2)
def be2 (n : Nat) : List UInt8 := [UInt8.ofNat (n / 256), UInt8.ofNat n]
def be4 (n : Nat) : List UInt8 := [UInt8.ofNat (n / 16777216), UInt8.ofNat (n / 65536), UInt8.ofNat (n / 256), UInt8.ofNat n]
def eO (s : List UInt8) : List UInt8 := s.takeWhile (· != 46)
def nameGo (short : Bool) : Nat → List UInt8 → Ink → Option Ink
  | 0, _, _ => none
  | fuel + 1, s, w =>
    if s = [] then some (w.put [0])
    else match (if short then tblAt w.tbl s else none) with
      | some p => some (w.put (be2 (49152 + p)))
      | none =>
        if (eO s).length = 0 ∨ 63 < (eO s).length then none
        else nameGo short fuel (s.drop ((eO s).length + 1))
          ⟨w.out ++ UInt8.ofNat (eO s).length :: eO s, if short ∧ w.out.length < 16384 then w.tbl ++ [(s, w.out.length)] else w.tbl⟩
def nameP (short : Bool) (s : List UInt8) (w : Ink) : Option Ink :=
  if s = [] ∨ 254 < s.length ∨ s.getLast? ≠ some 46 then none
  else if s = [46] then some (w.put [0]) else nameGo short (s.length + 1) s w
def eN (s : List UInt8) : List UInt8 := s.take 255
def padTo (b : List UInt8) (n : Nat) : List UInt8 := b.take n ++ List.replicate (n - b.length) 0
def eX (l : List fU) : List UInt8 := (l.map fun p => be2 p.key ++ (be2 p.data.length ++ p.data)).flatten
def fE (l : List (List UInt8)) : List UInt8 := (l.map fun s => UInt8.ofNat s.length :: s).flatten
def fT (r : fY) (w : Ink) : Option Ink :=
  match r.kind with
  | 1 => some (w.put (padTo r.data 4))
  | 8 => some (w.put (padTo r.data 16))
  | 2 => nameP true (eN r.host) w
  | 3 => nameP true (eN r.host) w
  | 5 => nameP true (eN r.host) w
  | 6 => nameP true (eN r.host) (w.put (be2 r.n1))
  | 9 => nameP false (eN r.host) (((w.put (be2 r.n1)).put (be2 r.n2)).put (be2 r.n3))
  | 4 => ((nameP true (eN r.host) w).bind fun w => nameP true (eN r.box) w).map fun w => ((((w.put (be4 r.n1)).put (be4 r.n2)).put (be4 r.n3)).put (be4 r.n4)).put (be4 r.n5)
  | 7 => if (r.texts.any fun s => decide (255 < s.length)) = true then none else some (w.put (fE r.texts))
  | 10 => some (w.put (eX r.pairs))
  | 11 => (nameP false (eN r.host) (w.put (be2 r.n1))).bind fun w => if (r.pairs.tail.any fun p => p.key == 0) = true then none else some (w.put (eX r.pairs))
  | 12 => (nameP false (eN r.host) (w.put (be2 r.n1))).bind fun w => if (r.pairs.tail.any fun p => p.key == 0) = true then none else some (w.put (eX r.pairs))
  | 13 => some (w.put r.data)
  | _ => none
def eG (r : fY) : Nat :=
  match r.kind with
  | 1 => 1 | 2 => 2 | 3 => 5 | 4 => 6 | 5 => 12 | 6 => 15 | 7 => 16 | 8 => 28 | 9 => 33 | 10 => 41 | 11 => 64 | 12 => 65
  | _ => r.type
def setAt (l : List UInt8) (i : Nat) (b : List UInt8) : List UInt8 := l.take i ++ b ++ l.drop (i + b.length)
def recP (r : fY) (w : Ink) : Option Ink :=
  (nameP true (eN r.name) w).bind fun w1 =>
    (fT r (w1.put (be2 (eG r) ++ be2 r.cls ++ be4 r.ttl ++ be2 0))).bind fun w2 =>
      if 65535 < w2.out.length - (w1.out.length + 10) then none
      else some { w2 with out := setAt w2.out (w1.out.length + 8) (be2 (w2.out.length - (w1.out.length + 10))) }
def recsP : List fY → Ink → Option Ink
  | [], w => some w
  | r :: l, w => (recP r w).bind (recsP l)
def askP (a : PAsk) (w : Ink) : Option Ink := (nameP true (eN a.name) w).map fun w => w.put (be2 a.type ++ be2 a.cls)
def asksP : List PAsk → Ink → Option Ink
  | [], w => some w
  | a :: l, w => (askP a w).bind (asksP l)
structure PHead where
  id : Nat := 0
  response : Bool := false
  op : Nat := 0
  authority : Bool := false
  cut : Bool := false
  desired : Bool := false
  available : Bool := false
  authentic : Bool := false
  unchecked : Bool := false
  code : Nat := 0
def orIf (c : Bool) (a n : Nat) : Nat := if c then a ||| n else a
theorem orIf_lt {c : Bool} {a n : Nat} (ha : a < 65536) (hn : n < 65536) : orIf c a n < 65536 := by
  unfold orIf
  split
  · exact Nat.or_lt_two_pow (n := 16) ha hn
  · exact ha
def PHead.bits (h : PHead) : Nat :=
  orIf h.unchecked (orIf h.authentic (orIf h.response (orIf h.authority (orIf h.cut (orIf h.desired (orIf h.available (h.op * 2048 ||| h.code) 128) 256) 512) 1024) 32768) 32) 16
structure PMess where
  head : PHead := {}
  asks : List PAsk := []
  answers : List fY := []
  authorities : List fY := []
  additionals : List fY := []
def headP (m : PMess) : List UInt8 := be2 m.head.id ++ be2 m.head.bits ++ be2 m.asks.length ++ be2 m.answers.length ++ be2 m.authorities.length ++ be2 m.additionals.length
def packM (m : PMess) : Option (List UInt8) :=
  ((((asksP m.asks ⟨headP m, []⟩).bind (recsP m.answers)).bind (recsP m.authorities)).bind (recsP m.additionals)).map (·.out)
end Go.Proofs.YtgpfjlfkaoffeaaGreatDoor
namespace Go.Proofs.YtgpfjlfkaoffeaaGreatDoor
open Go
theorem nameGo_fuel (short : Bool) : ∀ (f g : Nat) (s : List UInt8) (w : Ink), s.length < f → s.length < g → nameGo short f s w = nameGo short g s w
  | 0, _, _, _, h, _ => absurd h (by omega)
  | _, 0, _, _, _, h => absurd h (by omega)
  | f + 1, g + 1, s, w, hf, hg => by
    unfold nameGo
    by_cases hs : s = []
    · rw [if_pos hs, if_pos hs]
    · rw [if_neg hs, if_neg hs]
      have h0 : 0 < s.length := List.length_pos_iff.2 hs
      split
      · rfl
      · split
        · rfl
        · refine nameGo_fuel short f g _ _ ?_ ?_ <;> rw [List.length_drop] <;> omega
def goN (short : Bool) (s : List UInt8) (w : Ink) : Option Ink := nameGo short (s.length + 1) s w
def midN (short : Bool) (s : List UInt8) (w : Ink) : Option Ink :=
  if (eO s).length = 0 ∨ 63 < (eO s).length then none
  else goN short (s.drop ((eO s).length + 1)) ⟨w.out ++ UInt8.ofNat (eO s).length :: eO s, w.tbl⟩
theorem goN_nil (short : Bool) (w : Ink) : goN short [] w = some (w.put [0]) := by unfold goN nameGo; rw [if_pos rfl]
theorem goN_hit {s : List UInt8} {w : Ink} {p : Nat} (hs : s ≠ []) (h : tblAt w.tbl s = some p) : goN true s w = some (w.put (be2 (49152 + p))) := by
  unfold goN nameGo
  rw [if_neg hs, if_pos rfl, h]
def putTbl (short : Bool) (s : List UInt8) (w : Ink) : Ink := ⟨w.out, if short ∧ w.out.length < 16384 then w.tbl ++ [(s, w.out.length)] else w.tbl⟩
theorem goN_step {short : Bool} {s : List UInt8} {w : Ink} (hs : s ≠ []) (h : short = false ∨ tblAt w.tbl s = none) : goN short s w = midN short s (putTbl short s w) := by
  have e : (if short then tblAt w.tbl s else none) = none := by
    rcases h with rfl | h
    · rfl
    · rw [h]; split <;> rfl
  have h0 : 0 < s.length := List.length_pos_iff.2 hs
  unfold goN nameGo midN putTbl
  rw [if_neg hs]
  simp only [e]
  split
  · rfl
  · unfold goN
    refine nameGo_fuel _ _ _ _ _ ?_ ?_ <;> rw [List.length_drop] <;> omega
theorem label_seg : ∀ {b i : Nat} {s : List UInt8}, b ≤ i → i < s.length → (∀ j, b ≤ j → j < i → eB s j ≠ 46) → eB s i = 46 → eO (s.drop b) = seg s b (i - b) := by
  intro b i s hb hi hno hdot
  obtain ⟨n, rfl⟩ : ∃ n, i = b + n := ⟨i - b, by omega⟩
  have key : ∀ (n : Nat) (l : List UInt8), n < l.length → (∀ j, j < n → eB l j ≠ 46) → eB l n = 46 → eO l = l.take n := by
    intro n
    induction n with
    | zero =>
      intro l hl _ h
      cases l with
      | nil => simp at hl
      | cons a l =>
        have ha : a = 46 := UInt8.toNat_inj.1 (by simpa [eB] using h)
        subst ha
        simp [eO]
    | succ n ih =>
      intro l hl hno h
      cases l with
      | nil => simp at hl
      | cons a l =>
        have ha : a ≠ 46 := fun e => hno 0 (by omega) (by subst e; simp [eB])
        have := ih l (by simpa using hl) (fun j hj => by have := hno (j + 1) (by omega); simpa [eB] using this) (by simpa [eB] using h)
        unfold eO at this ⊢
        rw [List.takeWhile_cons_of_pos (by simpa using ha), this, List.take_succ_cons]
  have hd : ∀ j, eB (s.drop b) j = eB s (b + j) := fun j => by simp [eB, List.getElem?_drop]
  rw [key n (s.drop b) (by rw [List.length_drop]; omega) (fun j hj => by rw [hd]; exact hno _ (by omega) (by omega)) (by rw [hd]; exact hdot)]
  unfold seg
  rw [show b + n - b = n by omega]
theorem label_len (s : List UInt8) : (eO s).length ≤ s.length := by
  unfold eO
  exact (List.takeWhile_sublist _).length_le
theorem nameGo_len (short : Bool) : ∀ (f : Nat) (s : List UInt8) (w w2 : Ink), nameGo short f s w = some w2 → w2.out.length ≤ w.out.length + 2 * s.length + 2
  | 0, _, _, _, h => by cases h
  | f + 1, s, w, w2, h => by
    unfold nameGo at h
    split at h
    · cases h; simp [Ink.put] <;> omega
    · split at h
      · cases h; simp [Ink.put, be2] <;> omega
      · split at h
        · cases h
        · have h2 := nameGo_len short f _ _ _ h
          have hl := label_len s
          simp only [List.length_append, List.length_cons, List.length_drop] at h2
          rename_i hs _ _ hne
          have h0 : 0 < s.length := List.length_pos_iff.2 hs
          omega
theorem eW {short : Bool} {s : List UInt8} {w w2 : Ink} (h : nameP short s w = some w2) : w2.out.length ≤ w.out.length + 2 * s.length + 2 := by
  unfold nameP at h
  split at h
  · cases h
  · split at h
    · cases h; simp [Ink.put] <;> omega
    · exact nameGo_len _ _ _ _ _ h
def nameF (s : List UInt8) : Option (List UInt8) := (nameP false s {}).map (·.out)
theorem nameGo_F : ∀ (f : Nat) (s : List UInt8) (w : Ink), nameGo false f s w = (nameGo false f s {}).map fun x => ⟨w.out ++ x.out, w.tbl⟩
  | 0, _, _ => rfl
  | f + 1, s, w => by
    unfold nameGo
    by_cases hs : s = []
    · simp [hs, Ink.put]
    · simp only [if_neg hs, Bool.false_eq_true, if_false, false_and]
      split
      · rfl
      · rw [nameGo_F f _ ⟨w.out ++ _, w.tbl⟩, nameGo_F f _ ⟨[] ++ _, []⟩]
        cases nameGo false f (List.drop ((eO s).length + 1) s) {} <;> simp
theorem nameP_F (s : List UInt8) (w : Ink) : nameP false s w = (nameF s).map fun b => ⟨w.out ++ b, w.tbl⟩ := by
  unfold nameF nameP
  split
  · rfl
  · split
    · rfl
    · rw [nameGo_F, Option.map_map]; rfl
end Go.Proofs.YtgpfjlfkaoffeaaGreatDoor
namespace Go.Proofs.YtgpfjlfkaoffeaaGreatDoor
open Go
def Sim (o1 o2 : List UInt8) (a b : Option Ink) : Prop := (a = none ∧ b = none) ∨ ∃ x t, a = some ⟨o1 ++ x, t⟩ ∧ b = some ⟨o2 ++ x, t⟩
section
variable {o1 o2 : List UInt8} {a b : Option Ink}
theorem Sim.put1 (h : o1.length = o2.length) (x : List UInt8) (t : List (List UInt8 × Nat)) : Sim o1 o2 (some ((⟨o1, t⟩ : Ink).put x)) (some ((⟨o2, t⟩ : Ink).put x)) := .inr ⟨x, t, rfl, rfl⟩
theorem Sim.bind {f : Ink → Option Ink} (h : Sim o1 o2 a b) (hl : o1.length = o2.length) (hf : ∀ (p1 p2 : List UInt8) t, p1.length = p2.length → Sim p1 p2 (f ⟨p1, t⟩) (f ⟨p2, t⟩)) : Sim o1 o2 (a.bind f) (b.bind f) := by
  rcases h with ⟨rfl, rfl⟩ | ⟨x, t, rfl, rfl⟩
  · exact .inl ⟨rfl, rfl⟩
  · rcases hf (o1 ++ x) (o2 ++ x) t (by simp [hl]) with ⟨h1, h2⟩ | ⟨y, t', h1, h2⟩
    · exact .inl ⟨by rw [Option.bind_some, h1], by rw [Option.bind_some, h2]⟩
    · exact .inr ⟨x ++ y, t', by rw [Option.bind_some, h1, List.append_assoc], by rw [Option.bind_some, h2, List.append_assoc]⟩
theorem Sim.more {c : List UInt8} (h : Sim (o1 ++ c) (o2 ++ c) a b) : Sim o1 o2 a b := by
  rcases h with ⟨rfl, rfl⟩ | ⟨x, t, rfl, rfl⟩
  · exact .inl ⟨rfl, rfl⟩
  · exact .inr ⟨c ++ x, t, by rw [List.append_assoc], by rw [List.append_assoc]⟩
end
theorem nameGo_sim (short : Bool) : ∀ (f : Nat) (s o1 o2 : List UInt8) (t : List (List UInt8 × Nat)), o1.length = o2.length → Sim o1 o2 (nameGo short f s ⟨o1, t⟩) (nameGo short f s ⟨o2, t⟩)
  | 0, _, _, _, _, _ => .inl ⟨rfl, rfl⟩
  | f + 1, s, o1, o2, t, h => by
    unfold nameGo
    by_cases hs : s = []
    · rw [if_pos hs, if_pos hs]; exact Sim.put1 h _ _
    · rw [if_neg hs, if_neg hs]
      simp only
      cases (if short then tblAt t s else none) with
      | some p => exact Sim.put1 h _ _
      | none =>
        simp only
        by_cases hl : (eO s).length = 0 ∨ 63 < (eO s).length
        · rw [if_pos hl, if_pos hl]; exact .inl ⟨rfl, rfl⟩
        · rw [if_neg hl, if_neg hl, h]
          exact (nameGo_sim short f _ (o1 ++ UInt8.ofNat (eO s).length :: eO s) (o2 ++ UInt8.ofNat (eO s).length :: eO s) _ (by simp [h])).more
theorem nameP_sim (short : Bool) (s : List UInt8) {o1 o2 : List UInt8} (t : List (List UInt8 × Nat)) (h : o1.length = o2.length) : Sim o1 o2 (nameP short s ⟨o1, t⟩) (nameP short s ⟨o2, t⟩) := by
  unfold nameP
  split
  · exact .inl ⟨rfl, rfl⟩
  · split
    · exact Sim.put1 h _ _
    · exact nameGo_sim _ _ _ _ _ _ h
theorem bodyP_sim (r : fY) {o1 o2 : List UInt8} (t : List (List UInt8 × Nat)) (h : o1.length = o2.length) : Sim o1 o2 (fT r ⟨o1, t⟩) (fT r ⟨o2, t⟩) := by
  unfold fT
  split
  · exact Sim.put1 h _ _
  · exact Sim.put1 h _ _
  · exact nameP_sim _ _ _ h
  · exact nameP_sim _ _ _ h
  · exact nameP_sim _ _ _ h
  · exact (nameP_sim _ _ _ (by simp [h])).more
  · exact (nameP_sim false (eN r.host) (o1 := o1 ++ be2 r.n1 ++ be2 r.n2 ++ be2 r.n3) (o2 := o2 ++ be2 r.n1 ++ be2 r.n2 ++ be2 r.n3) t (by simp [h])).more.more.more
  · have h1 := (nameP_sim true (eN r.host) t h).bind h (f := fun w => nameP true (eN r.box) w) fun p1 p2 t hp => nameP_sim _ _ _ hp
    rcases h1 with ⟨e1, e2⟩ | ⟨x, t', e1, e2⟩
    · exact .inl ⟨by rw [e1]; rfl, by rw [e2]; rfl⟩
    · exact .inr ⟨x ++ (be4 r.n1 ++ (be4 r.n2 ++ (be4 r.n3 ++ (be4 r.n4 ++ be4 r.n5)))), t', by rw [e1]; simp [Ink.put], by rw [e2]; simp [Ink.put]⟩
  · split
    · exact .inl ⟨rfl, rfl⟩
    · exact Sim.put1 h _ _
  · exact Sim.put1 h _ _
  · refine ((nameP_sim false (eN r.host) (o1 := o1 ++ be2 r.n1) (o2 := o2 ++ be2 r.n1) t (by simp [h])).more).bind h fun p1 p2 t hp => ?_
    split
    · exact .inl ⟨rfl, rfl⟩
    · exact Sim.put1 hp _ _
  · refine ((nameP_sim false (eN r.host) (o1 := o1 ++ be2 r.n1) (o2 := o2 ++ be2 r.n1) t (by simp [h])).more).bind h fun p1 p2 t hp => ?_
    split
    · exact .inl ⟨rfl, rfl⟩
    · exact Sim.put1 hp _ _
  · exact Sim.put1 h _ _
  · exact .inl ⟨rfl, rfl⟩
def recPL (len : Nat) (r : fY) (w : Ink) : Option Ink :=
  (nameP true (eN r.name) w).bind fun w1 =>
    (fT r (w1.put (be2 (eG r) ++ be2 r.cls ++ be4 r.ttl ++ be2 len))).bind fun w2 =>
      if 65535 < w2.out.length - (w1.out.length + 10) then none
      else some { w2 with out := setAt w2.out (w1.out.length + 8) (be2 (w2.out.length - (w1.out.length + 10))) }
theorem recPL_eq (len : Nat) (r : fY) (w : Ink) : recPL len r w = recP r w := by
  unfold recPL recP
  cases nameP true (eN r.name) w with
  | none => rfl
  | some w1 =>
    simp only [Option.bind_some, Ink.put]
    have hs := bodyP_sim r (o1 := w1.out ++ (be2 (eG r) ++ be2 r.cls ++ be4 r.ttl ++ be2 len)) (o2 := w1.out ++ (be2 (eG r) ++ be2 r.cls ++ be4 r.ttl ++ be2 0)) w1.tbl (by simp [be2, be4])
    rcases hs with ⟨h1, h2⟩ | ⟨x, t, h1, h2⟩
    · rw [h1, h2]
    · rw [h1, h2]
      simp only [Option.bind_some]
      have hl : (w1.out ++ (be2 (eG r) ++ be2 r.cls ++ be4 r.ttl ++ be2 len) ++ x).length = (w1.out ++ (be2 (eG r) ++ be2 r.cls ++ be4 r.ttl ++ be2 0) ++ x).length := by simp [be2, be4]
      rw [hl]
      split
      · rfl
      · congr 2
        generalize hn : (w1.out ++ (be2 (eG r) ++ be2 r.cls ++ be4 r.ttl ++ be2 0) ++ x).length - (w1.out.length + 10) = n
        have key : ∀ m : Nat, setAt (w1.out ++ (be2 (eG r) ++ be2 r.cls ++ be4 r.ttl ++ be2 m) ++ x) (w1.out.length + 8) (be2 n) = w1.out ++ (be2 (eG r) ++ be2 r.cls ++ be4 r.ttl ++ be2 n) ++ x := by
          intro m
          unfold setAt
          have e1 : w1.out ++ (be2 (eG r) ++ be2 r.cls ++ be4 r.ttl ++ be2 m) ++ x = (w1.out ++ (be2 (eG r) ++ be2 r.cls ++ be4 r.ttl)) ++ (be2 m ++ x) := by simp
          have e2 : w1.out.length + 8 = (w1.out ++ (be2 (eG r) ++ be2 r.cls ++ be4 r.ttl)).length := by simp [be2, be4]
          rw [e1, e2, List.take_left' rfl, ← List.drop_drop, List.drop_left' rfl, show (be2 n).length = (be2 m).length from rfl, List.drop_left' rfl]
          simp
        rw [key, key]
theorem bodyP_len {r : fY} {w w2 : Ink} (h : fT r w = some w2) : w.out.length ≤ w2.out.length := by
  rcases bodyP_sim r (o1 := w.out) (o2 := w.out) w.tbl rfl with ⟨h1, _⟩ | ⟨x, t, h1, _⟩
  · have : fT r w = none := h1
    rw [this] at h; cases h
  · have h2 : fT r w = some ⟨w.out ++ x, t⟩ := h1
    rw [h2] at h; cases h; simp
end Go.Proofs.YtgpfjlfkaoffeaaGreatDoor
namespace Go.Proofs.YtgpfjlfkaoffeaaGreatDoor
open Go
structure FitR (r : fY) : Prop where
  data : r.data.length ≤ 68719476736
  texts : (fE r.texts).length ≤ 68719476736
  text : ∀ s ∈ r.texts, s.length ≤ 255
  pairs : (eX r.pairs).length ≤ 68719476736
  pair : ∀ p ∈ r.pairs, p.key < 65536 ∧ p.data.length < 65536
theorem eL (s : List UInt8) : (eN s).length ≤ 255 := by unfold eN; rw [List.length_take]; omega
theorem padTo_len (b : List UInt8) (n : Nat) : (padTo b n).length = n := by unfold padTo; simp; omega
theorem eP (n : Nat) : (be2 n).length = 2 := rfl
theorem be4_len (n : Nat) : (be4 n).length = 4 := rfl
theorem bodyP_grow {r : fY} (hf : FitR r) {w w2 : Ink} (h : fT r w = some w2) : w2.out.length ≤ w.out.length + 274877906944 := by
  have hn := eL r.host
  have hb := eL r.box
  have h1 := hf.data
  have h2 := hf.texts
  have h3 := hf.pairs
  have hp := padTo_len r.data
  unfold fT at h
  split at h
  · cases h; simp only [Ink.put, List.length_append, hp]; omega
  · cases h; simp only [Ink.put, List.length_append, hp]; omega
  · have := eW h; omega
  · have := eW h; omega
  · have := eW h; omega
  · have := eW h; simp only [Ink.put, List.length_append, eP] at this; omega
  · have := eW h; simp only [Ink.put, List.length_append, eP] at this; omega
  · obtain ⟨w3, h4, rfl⟩ := Option.map_eq_some_iff.1 h
    obtain ⟨w4, h5, h6⟩ := Option.bind_eq_some_iff.1 h4
    have e1 := eW h5
    have e2 := eW h6
    simp only [Ink.put, List.length_append, be4_len]; omega
  · split at h
    · cases h
    · cases h; simp only [Ink.put, List.length_append]; omega
  · cases h; simp only [Ink.put, List.length_append]; omega
  · obtain ⟨w3, h4, h5⟩ := Option.bind_eq_some_iff.1 h
    have e1 := eW h4
    simp only [Ink.put, List.length_append, eP] at e1
    split at h5
    · cases h5
    · cases h5; simp only [Ink.put, List.length_append]; omega
  · obtain ⟨w3, h4, h5⟩ := Option.bind_eq_some_iff.1 h
    have e1 := eW h4
    simp only [Ink.put, List.length_append, eP] at e1
    split at h5
    · cases h5
    · cases h5; simp only [Ink.put, List.length_append]; omega
  · cases h; simp only [Ink.put, List.length_append]; omega
  · cases h
theorem recP_grow {r : fY} {w w2 : Ink} (h : recP r w = some w2) : w2.out.length ≤ w.out.length + 66100 := by
  have hn := eL r.name
  unfold recP at h
  obtain ⟨w3, h1, h2⟩ := Option.bind_eq_some_iff.1 h
  obtain ⟨w4, h3, h4⟩ := Option.bind_eq_some_iff.1 h2
  have e1 := eW h1
  split at h4
  · cases h4
  · rename_i hs
    cases h4
    simp only [setAt, List.length_append, List.length_take, List.length_drop, eP]
    have e2 : w3.out.length + 10 ≤ w4.out.length := by
      rcases bodyP_sim r (o1 := (w3.put (be2 (eG r) ++ be2 r.cls ++ be4 r.ttl ++ be2 0)).out) (o2 := (w3.put (be2 (eG r) ++ be2 r.cls ++ be4 r.ttl ++ be2 0)).out) w3.tbl rfl with ⟨h5, _⟩ | ⟨x, t, h5, _⟩
      · have : fT r (w3.put (be2 (eG r) ++ be2 r.cls ++ be4 r.ttl ++ be2 0)) = none := h5
        rw [this] at h3; cases h3
      · have : fT r (w3.put (be2 (eG r) ++ be2 r.cls ++ be4 r.ttl ++ be2 0)) = some _ := h5
        rw [this] at h3; cases h3
        simp only [Ink.put, List.length_append, eP, be4_len]; omega
    omega
theorem askP_grow {a : PAsk} {w w2 : Ink} (h : askP a w = some w2) : w2.out.length ≤ w.out.length + 600 := by
  have hn := eL a.name
  unfold askP at h
  obtain ⟨w3, h1, rfl⟩ := Option.map_eq_some_iff.1 h
  have e1 := eW h1
  simp only [Ink.put, List.length_append, eP]; omega
end Go.Proofs.YtgpfjlfkaoffeaaGreatDoor

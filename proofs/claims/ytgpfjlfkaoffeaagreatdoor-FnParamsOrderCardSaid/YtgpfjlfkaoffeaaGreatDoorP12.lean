/- Errors and package-level variables of the program, as the contracts speak of them. Leaves of the package: numbers and texts read and passed over. Leaves of the package, second part: types, classes, things passed over. -/
import Derived.Test.YtgpfjlfkaoffeaaGreatDoorP11
import Derived.Test.YtgpfjlfkaoffeaaGreatDoorP07
import Derived.LaidEql
set_option linter.all false
namespace Go.Proofs.YtgpfjlfkaoffeaaGreatDoor
open Go
def errGs : List Nat := [4, 5, 12, 13, 14, 7, 15, 16, 17, 19, 20, 6, 8, 9, 10, 11, 0, 1, 2, 3]
def errVal (a : Addr) : Value := .iface 347 (.pointer (some a))
structure Gl (A : Nat → Addr) (V : Vw) : Prop where
 err : ∀ g, errGs.contains g = true → V.cell g 0 = some (errVal (A g))
 obj : ∀ g, errGs.contains g = true → ∃ cs t, V (A g).block = some (.cells cs t (0, 0))
 inj : ∀ g h, errGs.contains g = true → errGs.contains h = true → A g = A h → g = h
 sec : ∃ m es c, V.cell 18 0 = some (.map (some m)) ∧ V m = some (.map es c) ∧
  ∀ k : Int, ∃ r, Instr.findNow (.int .u8) (.int .u8 k) es.toList 0 = some r ∧ ∀ i v, r = some (i, v) → ∃ s : ByteArray, v = .string s ∧ s.size ≤ 100
theorem Gl.mono {A : Nat → Addr} {V V' : Vw} (hV : V.le V') (h : Gl A V) : Gl A V' := by
 refine ⟨fun g hg => Vw.cell_le hV (h.err g hg), fun g hg => ?_, h.inj, ?_⟩
 obtain ⟨cs, t, h1⟩ := h.obj g hg
 exact ⟨cs, t, hV _ _ h1⟩
 obtain ⟨m, es, c, h1, h2, h3⟩ := h.sec
 exact ⟨m, es, c, Vw.cell_le hV h1, hV _ _ h2, h3⟩
theorem Gl.ld {A : Nat → Addr} {V : Vw} {w : World} (h : Gl A V) (hV : V.In w) {g : Nat} (hg : errGs.contains g = true) : w.cell? ⟨g, 0, none⟩ = some (errVal (A g)) := Vw.cell_in hV (h.err g hg)
def ErrV (A : Nat → Addr) (v : Value) : EK → Prop
 | .ok => v = .nilIface
 | .early => v = errVal (A 4)
 | .done => v = errVal (A 5)
 | .other => (∃ g, errGs.contains g = true ∧ g ≠ 4 ∧ g ≠ 5 ∧ v = errVal (A g)) ∨ ∃ b, v = .iface 139 (.pointer (some ⟨b, 0, none⟩))
theorem errv_g {A : Nat → Addr} {g : Nat} (hg : errGs.contains g = true) (h1 : g ≠ 4) (h2 : g ≠ 5) : ErrV A (errVal (A g)) .other := .inl ⟨g, hg, h1, h2, rfl⟩
theorem dA {A : Nat → Addr} {b : Nat} : ErrV A (.iface 139 (.pointer (some ⟨b, 0, none⟩))) .other := .inr ⟨b, rfl⟩
theorem ErrV.oneCell {A : Nat → Addr} {v : Value} {k : EK} (h : ErrV A v k) : v.oneCell' = true := by
 cases k with
 | ok => rw [h]; rfl
 | early => rw [h]; rfl
 | done => rw [h]; rfl
 | other => rcases h with ⟨g, _, _, _, rfl⟩ | ⟨b, rfl⟩ <;> rfl
section
variable {A : Nat → Addr} {V : Vw} {w : World} {ρ : Env}
theorem po_err_eq_nil {x : Operand} {T' : TypeId} {v : Value} {k : EK} (h : ErrV A v k) (hx : ev ρ x = some v) : PO Tryz.prog (.binOp .eql 57 x (.const .nilIface) T') ρ w (.bool (decide (k = .ok))) := by
 cases k with
 | ok => subst h; exact po_eql_nil' Tryz.underlying57 hx
 | early => subst h; exact po_eql_nil Tryz.underlying57 hx
 | done => subst h; exact po_eql_nil Tryz.underlying57 hx
 | other => rcases h with ⟨g, _, _, _, rfl⟩ | ⟨b, rfl⟩ <;> exact po_eql_nil Tryz.underlying57 hx
theorem bB {x : Operand} {T' : TypeId} {v : Value} {k : EK} (h : ErrV A v k) (hx : ev ρ x = some v) : PO Tryz.prog (.binOp .neq 57 x (.const .nilIface) T') ρ w (.bool (decide (k ≠ .ok))) := by
 cases k with
 | ok => subst h; exact po_neq_nil' Tryz.underlying57 hx
 | early => subst h; exact po_neq_nil Tryz.underlying57 hx
 | done => subst h; exact po_neq_nil Tryz.underlying57 hx
 | other => rcases h with ⟨g, _, _, _, rfl⟩ | ⟨b, rfl⟩ <;> exact po_neq_nil Tryz.underlying57 hx
def hasInfo (P : Program) (T : TypeId) (c : Bool) (n : Nat) : Bool :=
 match P.info? T with
 | some i => (i.comparable == c) && (i.size == n)
 | none => false
theorem hasInfo_spec {P : Program} {T : TypeId} {c : Bool} {n : Nat} (h : hasInfo P T c n = true) : ∃ i, P.info? T = some i ∧ i.comparable = c ∧ i.size = n := by
 unfold hasInfo at h
 split at h
 rename_i i hi
 simp at h
 exact ⟨i, hi, h.1, h.2⟩
 cases h
theorem info_errPtr : hasInfo Tryz.prog 347 true 1 = true := by kernel_rfl
theorem info_errStr : hasInfo Tryz.prog 365 true 1 = true := by kernel_rfl
theorem guard_iface {op : BinOp} {T : TypeId} {x y : Operand} {u : Value} {t : TypeId} {v : Value} : (eqGuard op T x y u (.iface t v)).run Tryz.prog w = .ok () w := by
 unfold eqGuard
 cases op <;> cases u <;> rfl
theorem equalIn_iface_types (d : Nat) {T t t' : TypeId} {u v : Value} {ms : Array (String × TypeId)} (hT : Tryz.prog.underlying T = some (.interface ms)) (hne : t ≠ t') :
  (Op.equalIn (d + 1) T (.iface t u) (.iface t' v)).run Tryz.prog w = .ok false w := by
 simp [Op.equalIn, run_underlying hT, hne]
theorem po_err_eq_g {x y : Operand} {T' : TypeId} {v : Value} {k k' : EK} {g : Nat} (hg : g = 4 ∧ k' = .early ∨ g = 5 ∧ k' = .done) (hG : Gl A V) (hV : V.In w) (h : ErrV A v k) (hx : ev ρ x = some v) (hy : ev ρ y = some (errVal (A g))) :
  PO Tryz.prog (.binOp .eql 57 x y T') ρ w (.bool (decide (k = k'))) := by
 refine bin_gen hx hy guard_iface ?_
 obtain ⟨i, hi, hcomp, _⟩ := hasInfo_spec info_errPtr
 obtain ⟨j, hj, _, hsz⟩ := hasInfo_spec info_errStr
 have hgin : errGs.contains g = true := by rcases hg with ⟨rfl, _⟩ | ⟨rfl, _⟩ <;> rfl
 have same : (binOp .eql 57 (errVal (A g)) (errVal (A g))).run Tryz.prog w = .ok (.bool true) w := run_eql_iface_ptr_same w (A g) Tryz.underlying57 Tryz.underlying347 hi hcomp hj
 have other : ∀ h, errGs.contains h = true → h ≠ g → (binOp .eql 57 (errVal (A h)) (errVal (A g))).run Tryz.prog w = .ok (.bool false) w := by
  intro h hh hne
  obtain ⟨c1, t1, e1⟩ := hG.obj h hh
  obtain ⟨c2, t2, e2⟩ := hG.obj g hgin
  exact run_eql_iface_ptr_other w Tryz.underlying57 Tryz.underlying347 hi hcomp hj (by omega) (fun e => hne (hG.inj h g hh hgin e)) (hV _ _ e1) (hV _ _ e2)
 cases k with
 | ok =>
  subst h
  have : decide (EK.ok = k') = false := by rcases hg with ⟨_, rfl⟩ | ⟨_, rfl⟩ <;> rfl
  rw [this]
  exact run_eql_iface_nil_left w _ _ Tryz.underlying57
 | early =>
  subst h
  rcases hg with ⟨rfl, rfl⟩ | ⟨rfl, rfl⟩
  exact same
  exact other _ rfl (by decide)
 | done =>
  subst h
  rcases hg with ⟨rfl, rfl⟩ | ⟨rfl, rfl⟩
  exact other _ rfl (by decide)
  exact same
 | other =>
  have : decide (EK.other = k') = false := by rcases hg with ⟨_, rfl⟩ | ⟨_, rfl⟩ <;> rfl
  rw [this]
  rcases h with ⟨g', h1, h2, h3, rfl⟩ | ⟨b, rfl⟩
  exact other g' h1 (by rcases hg with ⟨rfl, _⟩ | ⟨rfl, _⟩ <;> assumption)
  exact binOp_eql_gen (by simp) (by simp) (by simp) (by simp) (by simp) (equalIn_iface_types 9999 Tryz.underlying57 (by decide))
end
end Go.Proofs.YtgpfjlfkaoffeaaGreatDoor
namespace Go.Proofs.YtgpfjlfkaoffeaaGreatDoor
open Go
def R16 (l : List UInt8) (n x o : Nat) (k : EK) : Prop := (k = .ok ∧ rd16 l n = some x ∧ o = n + 2) ∨ (k = .other ∧ rd16 l n = none ∧ x = 0 ∧ o = n)
def R32 (l : List UInt8) (n x o : Nat) (k : EK) : Prop := (k = .ok ∧ rd32 l n = some x ∧ o = n + 4) ∨ (k = .other ∧ rd32 l n = none ∧ x = 0 ∧ o = n)
theorem rd16_some {l : List UInt8} {n x : Nat} (h : rd16 l n = some x) : x = w16 l n ∧ n + 2 ≤ l.length := by
 unfold rd16 at h; split at h
 simp at h; exact ⟨h.symm, by assumption⟩
 cases h
theorem rd32_some {l : List UInt8} {n x : Nat} (h : rd32 l n = some x) : x = w32 l n ∧ n + 4 ≤ l.length := by
 unfold rd32 at h; split at h
 simp at h; exact ⟨h.symm, by assumption⟩
 cases h
theorem R16.ok {l : List UInt8} {n x o : Nat} (h : R16 l n x o .ok) : rd16 l n = some x ∧ o = n + 2 ∧ x = w16 l n ∧ n + 2 ≤ l.length := by
 rcases h with ⟨_, h1, h2⟩ | ⟨h, _⟩
 exact ⟨h1, h2, rd16_some h1⟩
 cases h
theorem R32.ok {l : List UInt8} {n x o : Nat} (h : R32 l n x o .ok) : rd32 l n = some x ∧ o = n + 4 ∧ x = w32 l n ∧ n + 4 ≤ l.length := by
 rcases h with ⟨_, h1, h2⟩ | ⟨h, _⟩
 exact ⟨h1, h2, rd32_some h1⟩
 cases h
theorem R16.lt {l : List UInt8} {n x o : Nat} {k : EK} (h : R16 l n x o k) : x < 65536 ∧ o ≤ n + 2 ∧ n ≤ o := by
 rcases h with ⟨_, h1, h2⟩ | ⟨_, _, h1, h2⟩
 have := w16_lt l n; rw [(rd16_some h1).1]; omega
 omega
theorem R32.lt {l : List UInt8} {n x o : Nat} {k : EK} (h : R32 l n x o k) : x < 4294967296 ∧ o ≤ n + 4 ∧ n ≤ o := by
 rcases h with ⟨_, h1, h2⟩ | ⟨_, _, h1, h2⟩
 have := w32_lt l n; rw [(rd32_some h1).1]; omega
 omega
theorem R16.bad {l : List UInt8} {n x o : Nat} {k : EK} (h : R16 l n x o k) (hk : k ≠ .ok) : k = .other ∧ rd16 l n = none := by
 rcases h with ⟨h, _⟩ | ⟨h, h2, _⟩
 exact (hk h).elim
 exact ⟨h, h2⟩
theorem R32.bad {l : List UInt8} {n x o : Nat} {k : EK} (h : R32 l n x o k) (hk : k ≠ .ok) : k = .other ∧ rd32 l n = none := by
 rcases h with ⟨h, _⟩ | ⟨h, h2, _⟩
 exact (hk h).elim
 exact ⟨h, h2⟩
theorem R16.badlen {l : List UInt8} {n x o : Nat} {k : EK} (h : R16 l n x o k) (hk : k ≠ .ok) : k = .other ∧ l.length < n + 2 := by
 obtain ⟨h1, h2⟩ := h.bad hk
 refine ⟨h1, ?_⟩
 unfold rd16 at h2
 split at h2
 cases h2
 omega
section
variable {A : Nat → Addr} {V : Vw} {w : World} {l : List UInt8} {mv : Value} {off : Int}
theorem cP (hG : Gl A V) (hV : V.In w) (hb : RB V mv l) (n : Nat) (hn : off = n) (h1 : n ≤ 1152921504606846976) (h2 : l.length ≤ 1152921504606846976) :
  CallsV Tryz.prog 149 #[mv, .int .i64 off] w fun v w' => St ⟨w, V, V⟩ w' [] ∧ ∃ (x o : Nat) (k : EK) (e : Value), v = .tuple #[.int .u16 x, .int .i64 o, e] ∧ ErrV A e k ∧ R16 l n x o k := by
 subst hn
 obtain ⟨a, cap, rfl, hcap, ha⟩ := hb.form
 have hs := St.start hV
 refine aT [_, _] Tryz.func149 Tryz.ntmps149 Tryz.results149 rfl rfl (dP (dN rfl rfl (dN rfl rfl (dN rfl rfl (aH (aF (dP (dM rfl rfl (lp (bN rfl rfl (i64w (by omega))) rfl (dM rfl rfl (lp (bC Tryz.underlying23 rfl) rfl (lp (cQ rfl rfl) rfl (aH ?_)))))))))))))
 refine bH rfl (fun hc0 => ?_) (fun hc0 => ?_)
 refine aF (bV hs [1] mixed (fun w hs => dI 0 rfl (fun w => aC rfl) rfl rfl (dJ 1 rfl hs rfl (fun w hs => (aO rfl (bR k_57 (hG.ld hs.isIn (g := 12) rfl)))) rfl (dI 2 rfl (fun w => aD rfl) rfl rfl (dI 3 rfl (fun w => aD rfl) rfl rfl (dI 4 rfl (fun w => aD rfl) rfl rfl (bS (by decide +kernel) (aV ⟨_, res3 rfl rfl rfl, ?_⟩))))))))
 exact ⟨hs, 0, n, .other, _, rfl, errv_g (g := 12) rfl (by decide) (by decide), .inr ⟨rfl, by unfold rd16; rw [if_neg (by omega)], rfl, rfl⟩⟩
 obtain ⟨b, p, rfl, hc⟩ := ha (by omega)
 refine aW (aF (bV hs [3, 10] mixed (fun w hs => dI 0 rfl (fun w => aC rfl) rfl rfl (dI 1 rfl (fun w => aC rfl) rfl rfl (dI 2 rfl (fun w => (po_ia es_23 rfl rfl (by omega) (by omega))) rfl rfl (dJ 3 rfl hs rfl (fun w hs => (aO rfl (bR k_5 (ldb hs.isIn hc n (by omega) (by omega))))) rfl (dI 4 rfl (fun w => bY Tryz.underlying5 Tryz.underlying22 rfl rfl) rfl rfl (dI 5 rfl (fun w => (po_shl rfl rfl (by decide) rfl)) rfl rfl (dI 6 rfl (fun w => aC rfl) rfl rfl (dI 7 rfl (fun w => aC rfl) rfl rfl (dI 8 rfl (fun w => (bN rfl rfl (i64w (by omega)))) rfl rfl (dI 9 rfl (fun w => (po_ia es_23 rfl rfl (by omega) (by omega))) rfl rfl (dJ 10 rfl hs rfl (fun w hs => (aO rfl (bR k_5 (ldb hs.isIn hc (n + 1) (by omega) (by omega))))) rfl ?_)))))))))))))
 refine dI 11 rfl (fun w => bY Tryz.underlying5 Tryz.underlying22 rfl rfl) rfl rfl (dI 12 rfl (fun w => (po_or rfl rfl (two_eq (cU _ _) (cU _ _)))) rfl rfl (dI 13 rfl (fun w => aC rfl) rfl rfl (dI 14 rfl (fun w => (bN rfl rfl (i64w (by omega)))) rfl rfl (dI 15 rfl (fun w => aD rfl) rfl rfl (dI 16 rfl (fun w => aD rfl) rfl rfl (dI 17 rfl (fun w => aD rfl) rfl rfl (bS (by decide +kernel) (aV ⟨_, res3 rfl rfl rfl, ?_⟩))))))))
 exact ⟨hs, w16 l n, n + 2, .ok, _, rfl, rfl, .inl ⟨rfl, by unfold rd16; rw [if_pos (by omega)], rfl⟩⟩
theorem c_unpackUint32 (hG : Gl A V) (hV : V.In w) (hb : RB V mv l) (n : Nat) (hn : off = n) (h1 : n ≤ 1152921504606846976) (h2 : l.length ≤ 1152921504606846976) :
  CallsV Tryz.prog 194 #[mv, .int .i64 off] w fun v w' => St ⟨w, V, V⟩ w' [] ∧ ∃ (x o : Nat) (k : EK) (e : Value), v = .tuple #[.int .u32 x, .int .i64 o, e] ∧ ErrV A e k ∧ R32 l n x o k := by
 subst hn
 obtain ⟨a, cap, rfl, hcap, ha⟩ := hb.form
 have hs := St.start hV
 refine aT [_, _] Tryz.func194 Tryz.ntmps194 Tryz.results194 rfl rfl (dP (dN rfl rfl (dN rfl rfl (dN rfl rfl (aH (aF (dP (dM rfl rfl (lp (bN rfl rfl (i64w (by omega))) rfl (dM rfl rfl (lp (bC Tryz.underlying23 rfl) rfl (lp (cQ rfl rfl) rfl (aH ?_)))))))))))))
 refine bH rfl (fun hc0 => ?_) (fun hc0 => ?_)
 refine aF (bV hs [1] mixed (fun w hs => dI 0 rfl (fun w => aC rfl) rfl rfl (dJ 1 rfl hs rfl (fun w hs => (aO rfl (bR k_57 (hG.ld hs.isIn (g := 12) rfl)))) rfl (dI 2 rfl (fun w => aD rfl) rfl rfl (dI 3 rfl (fun w => aD rfl) rfl rfl (dI 4 rfl (fun w => aD rfl) rfl rfl (bS (by decide +kernel) (aV ⟨_, res3 rfl rfl rfl, ?_⟩))))))))
 exact ⟨hs, 0, n, .other, _, rfl, errv_g (g := 12) rfl (by decide) (by decide), .inr ⟨rfl, by unfold rd32; rw [if_neg (by omega)], rfl, rfl⟩⟩
 obtain ⟨b, p, rfl, hc⟩ := ha (by omega)
 refine aW (aF (bV hs [3, 10, 18, 26] mixed (fun w hs => dI 0 rfl (fun w => aC rfl) rfl rfl (dI 1 rfl (fun w => aC rfl) rfl rfl (dI 2 rfl (fun w => (po_ia es_23 rfl rfl (by omega) (by omega))) rfl rfl (dJ 3 rfl hs rfl (fun w hs => (aO rfl (bR k_5 (ldb hs.isIn hc n (by omega) (by omega))))) rfl (dI 4 rfl (fun w => bY Tryz.underlying5 Tryz.underlying27 rfl rfl) rfl rfl (dI 5 rfl (fun w => (po_shl rfl rfl (by decide) rfl)) rfl rfl (dI 6 rfl (fun w => aC rfl) rfl rfl (dI 7 rfl (fun w => aC rfl) rfl rfl (dI 8 rfl (fun w => (bN rfl rfl (i64w (by omega)))) rfl rfl (dI 9 rfl (fun w => (po_ia es_23 rfl rfl (by omega) (by omega))) rfl rfl (dJ 10 rfl hs rfl (fun w hs => (aO rfl (bR k_5 (ldb hs.isIn hc (n + 1) (by omega) (by omega))))) rfl ?_)))))))))))))
 refine dI 11 rfl (fun w => bY Tryz.underlying5 Tryz.underlying27 rfl rfl) rfl rfl (dI 12 rfl (fun w => (po_shl rfl rfl (by decide) rfl)) rfl rfl (dI 13 rfl (fun w => po_or rfl rfl rfl) rfl rfl (dI 14 rfl (fun w => aC rfl) rfl rfl (dI 15 rfl (fun w => aC rfl) rfl rfl (dI 16 rfl (fun w => (bN rfl rfl (i64w (by omega)))) rfl rfl (dI 17 rfl (fun w => (po_ia es_23 rfl rfl (by omega) (by omega))) rfl rfl (dJ 18 rfl hs rfl (fun w hs => (aO rfl (bR k_5 (ldb hs.isIn hc (n + 2) (by omega) (by omega))))) rfl (dI 19 rfl (fun w => bY Tryz.underlying5 Tryz.underlying27 rfl rfl) rfl rfl (dI 20 rfl (fun w => (po_shl rfl rfl (by decide) rfl)) rfl rfl (dI 21 rfl (fun w => po_or rfl rfl rfl) rfl rfl (dI 22 rfl (fun w => aC rfl) rfl rfl (dI 23 rfl (fun w => aC rfl) rfl rfl (dI 24 rfl (fun w => (bN rfl rfl (i64w (by omega)))) rfl rfl ?_)))))))))))))
 refine dI 25 rfl (fun w => (po_ia es_23 rfl rfl (by omega) (by omega))) rfl rfl (dJ 26 rfl hs rfl (fun w hs => (aO rfl (bR k_5 (ldb hs.isIn hc (n + 3) (by omega) (by omega))))) rfl (dI 27 rfl (fun w => bY Tryz.underlying5 Tryz.underlying27 rfl rfl) rfl rfl (dI 28 rfl (fun w => (po_or rfl rfl (four_eq (cU _ _) (cU _ _) (cU _ _) (cU _ _)))) rfl rfl (dI 29 rfl (fun w => aD rfl) rfl rfl (bS (by decide +kernel) (dP (dM rfl rfl (dM rfl rfl (lp (bN rfl rfl (i64w (by omega))) rfl (dN rfl rfl (dN rfl rfl (dN rfl rfl (aH ?_)))))))))))))
 refine aV ⟨_, res3 rfl rfl rfl, ?_⟩
 exact ⟨hs, w32 l n, n + 4, .ok, _, rfl, rfl, .inl ⟨rfl, by unfold rd32; rw [if_pos (by omega)], rfl⟩⟩
end
end Go.Proofs.YtgpfjlfkaoffeaaGreatDoor
namespace Go.Proofs.YtgpfjlfkaoffeaaGreatDoor
open Go
section
variable {A : Nat → Addr} {V : Vw} {w : World} {l : List UInt8} {mv : Value} {off : Int}
theorem c_unpackType (hG : Gl A V) (hV : V.In w) (hb : RB V mv l) (n : Nat) (hn : off = n) (h1 : n ≤ 1152921504606846976) (h2 : l.length ≤ 1152921504606846976) :
  CallsV Tryz.prog 152 #[mv, .int .i64 off] w fun v w' => St ⟨w, V, V⟩ w' [] ∧ ∃ (x o : Nat) (k : EK) (e : Value), v = .tuple #[.int .u16 x, .int .i64 o, e] ∧ ErrV A e k ∧ R16 l n x o k := by
 have hs := St.start hV
 refine aT [_, _] Tryz.func152 Tryz.ntmps152 Tryz.results152 rfl rfl (dP (dN rfl rfl (dN rfl rfl (dN rfl rfl (aH (dP (dM rfl rfl (dM rfl rfl (aZ ok_149 rfl rfl (cP hG hs.isIn hb n hn h1 h2) rfl (fun v13 w HF => ?_))))))))))
 obtain ⟨hc, x, o, k, e, rfl, he, hr⟩ := HF
 replace hs := hs.frame hc
 refine dM rfl rfl (dO rfl rfl rfl (dO rfl rfl rfl (dO rfl rfl rfl (dN rfl rfl (dN rfl rfl (dN rfl rfl (aH (dP (dM rfl rfl (dM rfl rfl (dM rfl rfl (dN rfl rfl (dN rfl rfl ?_)))))))))))))
 refine dN rfl rfl (aH (aV ⟨_, res3 rfl rfl rfl, ?_⟩))
 exact ⟨hs, x, o, k, e, rfl, he, hr⟩
theorem c_unpackClass (hG : Gl A V) (hV : V.In w) (hb : RB V mv l) (n : Nat) (hn : off = n) (h1 : n ≤ 1152921504606846976) (h2 : l.length ≤ 1152921504606846976) :
  CallsV Tryz.prog 153 #[mv, .int .i64 off] w fun v w' => St ⟨w, V, V⟩ w' [] ∧ ∃ (x o : Nat) (k : EK) (e : Value), v = .tuple #[.int .u16 x, .int .i64 o, e] ∧ ErrV A e k ∧ R16 l n x o k := by
 have hs := St.start hV
 refine aT [_, _] Tryz.func153 Tryz.ntmps153 Tryz.results153 rfl rfl (dP (dN rfl rfl (dN rfl rfl (dN rfl rfl (aH (dP (dM rfl rfl (dM rfl rfl (aZ ok_149 rfl rfl (cP hG hs.isIn hb n hn h1 h2) rfl (fun v13 w HF => ?_))))))))))
 obtain ⟨hc, x, o, k, e, rfl, he, hr⟩ := HF
 replace hs := hs.frame hc
 refine dM rfl rfl (dO rfl rfl rfl (dO rfl rfl rfl (dO rfl rfl rfl (dN rfl rfl (dN rfl rfl (dN rfl rfl (aH (dP (dM rfl rfl (dM rfl rfl (dM rfl rfl (dN rfl rfl (dN rfl rfl ?_)))))))))))))
 refine dN rfl rfl (aH (aV ⟨_, res3 rfl rfl rfl, ?_⟩))
 exact ⟨hs, x, o, k, e, rfl, he, hr⟩
def RSk (l : List UInt8) (n d o : Nat) (k : EK) : Prop := (k = .ok ∧ n + d ≤ l.length ∧ o = n + d) ∨ (k = .other ∧ l.length < n + d ∧ o = n)
theorem c_skipUint16 (hG : Gl A V) (hV : V.In w) (hb : RB V mv l) (n : Nat) (hn : off = n) (h1 : n ≤ 1152921504606846976) (h2 : l.length ≤ 1152921504606846976) :
  CallsV Tryz.prog 189 #[mv, .int .i64 off] w fun v w' => St ⟨w, V, V⟩ w' [] ∧ ∃ (o : Nat) (k : EK) (e : Value), v = .tuple #[.int .i64 o, e] ∧ ErrV A e k ∧ RSk l n 2 o k := by
 subst hn
 obtain ⟨a, cap, rfl, hcap, ha⟩ := hb.form
 have hs := St.start hV
 refine aT [_, _] Tryz.func189 Tryz.ntmps189 Tryz.results189 rfl rfl (dP (dN rfl rfl (dN rfl rfl (aH (aF (dP (dM rfl rfl (lp (bN rfl rfl (i64w (by omega))) rfl (dM rfl rfl (lp (bC Tryz.underlying23 rfl) rfl (lp (cQ rfl rfl) rfl (aH (bH rfl (fun hc0 => ?_) (fun hc0 => ?_))))))))))))))
 refine aF (bV hs [1] mixed (fun w hs => dI 0 rfl (fun w => aC rfl) rfl rfl (dJ 1 rfl hs rfl (fun w hs => (aO rfl (bR k_57 (hG.ld hs.isIn (g := 12) rfl)))) rfl (dI 2 rfl (fun w => aD rfl) rfl rfl (dI 3 rfl (fun w => aD rfl) rfl rfl (bS (by decide +kernel) (aV ⟨_, res2 rfl rfl, ?_⟩)))))))
 exact ⟨hs, n, .other, _, rfl, errv_g (g := 12) rfl (by decide) (by decide), .inr ⟨rfl, by omega, rfl⟩⟩
 refine aW (dP (dM rfl rfl (lp (bN rfl rfl (i64w (by omega))) rfl (dN rfl rfl (dN rfl rfl (aH (aV ⟨_, res2 rfl rfl, ?_⟩)))))))
 exact ⟨hs, n + 2, .ok, _, rfl, rfl, .inl ⟨rfl, by omega, rfl⟩⟩
theorem c_skipUint32 (hG : Gl A V) (hV : V.In w) (hb : RB V mv l) (n : Nat) (hn : off = n) (h1 : n ≤ 1152921504606846976) (h2 : l.length ≤ 1152921504606846976) :
  CallsV Tryz.prog 197 #[mv, .int .i64 off] w fun v w' => St ⟨w, V, V⟩ w' [] ∧ ∃ (o : Nat) (k : EK) (e : Value), v = .tuple #[.int .i64 o, e] ∧ ErrV A e k ∧ RSk l n 4 o k := by
 subst hn
 obtain ⟨a, cap, rfl, hcap, ha⟩ := hb.form
 have hs := St.start hV
 refine aT [_, _] Tryz.func197 Tryz.ntmps197 Tryz.results197 rfl rfl (dP (dN rfl rfl (dN rfl rfl (aH (aF (dP (dM rfl rfl (lp (bN rfl rfl (i64w (by omega))) rfl (dM rfl rfl (lp (bC Tryz.underlying23 rfl) rfl (lp (cQ rfl rfl) rfl (aH (bH rfl (fun hc0 => ?_) (fun hc0 => ?_))))))))))))))
 refine aF (bV hs [1] mixed (fun w hs => dI 0 rfl (fun w => aC rfl) rfl rfl (dJ 1 rfl hs rfl (fun w hs => (aO rfl (bR k_57 (hG.ld hs.isIn (g := 12) rfl)))) rfl (dI 2 rfl (fun w => aD rfl) rfl rfl (dI 3 rfl (fun w => aD rfl) rfl rfl (bS (by decide +kernel) (aV ⟨_, res2 rfl rfl, ?_⟩)))))))
 exact ⟨hs, n, .other, _, rfl, errv_g (g := 12) rfl (by decide) (by decide), .inr ⟨rfl, by omega, rfl⟩⟩
 refine aW (dP (dM rfl rfl (lp (bN rfl rfl (i64w (by omega))) rfl (dN rfl rfl (dN rfl rfl (aH (aV ⟨_, res2 rfl rfl, ?_⟩)))))))
 exact ⟨hs, n + 4, .ok, _, rfl, rfl, .inl ⟨rfl, by omega, rfl⟩⟩
theorem c_skipType (hG : Gl A V) (hV : V.In w) (hb : RB V mv l) (n : Nat) (hn : off = n) (h1 : n ≤ 1152921504606846976) (h2 : l.length ≤ 1152921504606846976) :
  CallsV Tryz.prog 155 #[mv, .int .i64 off] w fun v w' => St ⟨w, V, V⟩ w' [] ∧ ∃ (o : Nat) (k : EK) (e : Value), v = .tuple #[.int .i64 o, e] ∧ ErrV A e k ∧ RSk l n 2 o k := by
 have hs := St.start hV
 refine aT [_, _] Tryz.func155 Tryz.ntmps155 Tryz.results155 rfl rfl (dP (dN rfl rfl (dN rfl rfl (aH (dP (dM rfl rfl (dM rfl rfl (aZ ok_189 rfl rfl (c_skipUint16 hG hs.isIn hb n hn h1 h2) rfl (fun v8 w HF => ?_)))))))))
 obtain ⟨hc, o, k, e, rfl, he, hr⟩ := HF
 replace hs := hs.frame hc
 refine dO rfl rfl rfl (dO rfl rfl rfl (dN rfl rfl (dN rfl rfl (aH (aV ⟨_, res2 rfl rfl, ?_⟩)))))
 exact ⟨hs, o, k, e, rfl, he, hr⟩
theorem c_skipClass (hG : Gl A V) (hV : V.In w) (hb : RB V mv l) (n : Nat) (hn : off = n) (h1 : n ≤ 1152921504606846976) (h2 : l.length ≤ 1152921504606846976) :
  CallsV Tryz.prog 156 #[mv, .int .i64 off] w fun v w' => St ⟨w, V, V⟩ w' [] ∧ ∃ (o : Nat) (k : EK) (e : Value), v = .tuple #[.int .i64 o, e] ∧ ErrV A e k ∧ RSk l n 2 o k := by
 have hs := St.start hV
 refine aT [_, _] Tryz.func156 Tryz.ntmps156 Tryz.results156 rfl rfl (dP (dN rfl rfl (dN rfl rfl (aH (dP (dM rfl rfl (dM rfl rfl (aZ ok_189 rfl rfl (c_skipUint16 hG hs.isIn hb n hn h1 h2) rfl (fun v8 w HF => ?_)))))))))
 obtain ⟨hc, o, k, e, rfl, he, hr⟩ := HF
 replace hs := hs.frame hc
 refine dO rfl rfl rfl (dO rfl rfl rfl (dN rfl rfl (dN rfl rfl (aH (aV ⟨_, res2 rfl rfl, ?_⟩)))))
 exact ⟨hs, o, k, e, rfl, he, hr⟩
def RPass (l : List UInt8) (n o : Nat) (k : EK) : Prop := (k = .ok ∧ pass l n = some o) ∨ (k = .other ∧ pass l n = none)
theorem c_skipName (hG : Gl A V) (hV : V.In w) (hb : RB V mv l) (n : Nat) (hn : off = n) (h1 : n ≤ 1152921504606846976) (h2 : l.length ≤ 1152921504606846976) :
  CallsV Tryz.prog 154 #[mv, .int .i64 off] w fun v w' => St ⟨w, V, V⟩ w' [] ∧ ∃ (o : Nat) (k : EK) (e : Value), v = .tuple #[.int .i64 o, e] ∧ ErrV A e k ∧ RPass l n o k := by
 subst hn
 obtain ⟨a, cap, rfl, hcap, ha⟩ := hb.form
 have hs := St.start hV
 refine aT [_, _] Tryz.func154 Tryz.ntmps154 Tryz.results154 rfl rfl (dP (dN rfl rfl (dN rfl rfl (aH (e_scope (dP (dM rfl rfl (dN rfl rfl (aH (aF (e_label (aF (bQ ?_)))))))))))))
 refine dC (fun i : Nat => upd (upd (upd emp 6 (.int .i64 i)) 1 (.int .i64 n)) 0 (.slice a l.length cap)) (fun i w' => St ⟨w, V, V⟩ w' [] ∧ pass l i = pass l n ∧ i ≤ 1152921504606846976) (fun i => l.length - i) n (aL rfl (aL rfl (aL rfl (bG _)))) ⟨hs, rfl, h1⟩ ?_
 clear hs
 rintro i w ⟨hs, hp, hi⟩
 refine bQ (aF (dP (dM rfl rfl (dM rfl rfl (lp (bC Tryz.underlying23 rfl) rfl (lp (po_geq rfl rfl) rfl (aH (bH rfl (fun hc0 => ?_) (fun hc0 => ?_)))))))))
 refine aF (bV hs [1] mixed (fun w hs => dI 0 rfl (fun w => aC rfl) rfl rfl (dJ 1 rfl hs rfl (fun w hs => (aO rfl (bR k_57 (hG.ld hs.isIn (g := 12) rfl)))) rfl (dI 2 rfl (fun w => aD rfl) rfl rfl (dI 3 rfl (fun w => aD rfl) rfl rfl (bS (by decide +kernel) (aV ⟨_, res2 rfl rfl, ?_⟩)))))))
 exact ⟨hs, n, .other, _, rfl, errv_g (g := 12) rfl (by decide) (by decide), .inr ⟨rfl, by rw [← hp, pass, dif_neg (by omega)]⟩⟩
 obtain ⟨b, p, rfl, hc⟩ := ha (by omega)
 have hlt := cU l i
 have hm0 := mask0 _ hlt
 have hm3 := mask3 _ hlt
 have hlen : i < l.length := by omega
 refine aW (dP (dM rfl rfl (dM rfl rfl (lp (po_ia es_23 rfl rfl (by omega) (by omega)) rfl (lp (aO rfl (bR k_5 (ldb hs.isIn hc i rfl (by omega)))) rfl (lp (bY Tryz.underlying5 Tryz.underlying3 rfl (i64c (c := byteAt l i) rfl (by omega))) rfl (dN rfl rfl (aH (dP (dM rfl rfl (lp (bN rfl rfl (i64c (c := i + 1) (by omega) (by omega))) rfl (dN rfl rfl (aH ?_)))))))))))))
 refine dP (dM rfl rfl (lp (po_and rfl rfl (i64and (a := byteAt l i) (b := 192) (by omega) (by omega))) rfl (aH (bQ (dP (lp (bI rfl rfl) rfl (dN rfl rfl (aH (bH rfl (fun hc1 => ?_) (fun hc1 => ?_))))))))))
 refine aF (dP (dM rfl rfl (lp (bI rfl rfl) rfl (aH (bH rfl (fun hc2 => ?_) (fun hc2 => ?_))))))
 refine e_exit (dP (dM rfl rfl (dN rfl rfl (dN rfl rfl (aH (aV ⟨_, res2 rfl rfl, ?_⟩))))))
 exact ⟨hs, i + 1, .ok, _, rfl, rfl, .inl ⟨rfl, by rw [← hp, pass, dif_pos hlen, if_pos (by omega)]⟩⟩
 refine aW (dP (dM rfl rfl (dM rfl rfl (lp (bN rfl rfl (i64c (c := i + 1 + byteAt l i) (by omega) (by omega))) rfl (dN rfl rfl (aH (dP (dM rfl rfl (dM rfl rfl (lp (bC Tryz.underlying23 rfl) rfl (lp (cQ rfl rfl) rfl (aH (bH rfl (fun hc3 => ?_) (fun hc3 => ?_))))))))))))))
 refine aF (bV hs [1] mixed (fun w hs => dI 0 rfl (fun w => aC rfl) rfl rfl (dJ 1 rfl hs rfl (fun w hs => (aO rfl (bR k_57 (hG.ld hs.isIn (g := 13) rfl)))) rfl (dI 2 rfl (fun w => aD rfl) rfl rfl (dI 3 rfl (fun w => aD rfl) rfl rfl (bS (by decide +kernel) (aV ⟨_, res2 rfl rfl, ?_⟩)))))))
 exact ⟨hs, n, .other, _, rfl, errv_g (g := 13) rfl (by decide) (by decide), .inr ⟨rfl, by rw [← hp, pass, dif_pos hlen, if_neg (by omega), if_pos (by omega), if_neg (by omega)]⟩⟩
 refine aW ?_
 exact ⟨i + 1 + byteAt l i, aL rfl (aL rfl (aL rfl (bG _))), ⟨hs, by rw [← hp]; conv => rhs; rw [pass, dif_pos hlen, if_neg (by omega), if_pos (by omega), if_pos (by omega)], by omega⟩, by omega⟩
 refine dP (lp (bI rfl rfl) rfl (dN rfl rfl (aH (bH rfl (fun hc4 => ?_) (fun hc4 => ?_)))))
 refine dP (dM rfl rfl (lp (bN rfl rfl (i64c (c := i + 2) (by omega) (by omega))) rfl (dN rfl rfl (aH (e_exit (dP (dM rfl rfl (dN rfl rfl (dN rfl rfl (aH (aV ⟨_, res2 rfl rfl, ?_⟩)))))))))))
 exact ⟨hs, i + 2, .ok, _, rfl, rfl, .inl ⟨rfl, by rw [← hp, pass, dif_pos hlen, if_neg (by omega), if_neg (by omega), if_pos (by omega)]⟩⟩
 refine aF (bV hs [1] mixed (fun w hs => dI 0 rfl (fun w => aC rfl) rfl rfl (dJ 1 rfl hs rfl (fun w hs => (aO rfl (bR k_57 (hG.ld hs.isIn (g := 17) rfl)))) rfl (dI 2 rfl (fun w => aD rfl) rfl rfl (dI 3 rfl (fun w => aD rfl) rfl rfl (bS (by decide +kernel) (aV ⟨_, res2 rfl rfl, ?_⟩)))))))
 exact ⟨hs, n, .other, _, rfl, errv_g (g := 17) rfl (by decide) (by decide), .inr ⟨rfl, by rw [← hp, pass, dif_pos hlen, if_neg (by omega), if_neg (by omega), if_neg (by omega)]⟩⟩
end
end Go.Proofs.YtgpfjlfkaoffeaaGreatDoor

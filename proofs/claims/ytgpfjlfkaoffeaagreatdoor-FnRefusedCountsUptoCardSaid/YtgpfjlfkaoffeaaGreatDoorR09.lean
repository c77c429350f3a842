/- Leaves of the package: numbers and texts read and passed over. Leaves of the package, second part: types, classes, things passed over. A name read. Texts, rows of bytes, headers of messages and of records, records passed over. -/
import Derived.Test.YtgpfjlfkaoffeaaGreatDoorR08
import Derived.Test.YtgpfjlfkaoffeaaGreatDoorR05
set_option linter.all false
namespace Go.Proofs.YtgpfjlfkaoffeaaGreatDoor
open Go
def R16 (l : List UInt8) (n x o : Nat) (k : EK) : Prop := (k = .ok ∧ rd16 l n = some x ∧ o = n + 2) ∨ (k = .other ∧ rd16 l n = none ∧ x = 0 ∧ o = n)
def R32 (l : List UInt8) (n x o : Nat) (k : EK) : Prop := (k = .ok ∧ rd32 l n = some x ∧ o = n + 4) ∨ (k = .other ∧ rd32 l n = none ∧ x = 0 ∧ o = n)
theorem rd16_some {l : List UInt8} {n x : Nat} (h : rd16 l n = some x) : x = w16 l n ∧ n + 2 ≤ l.length := by
 unfold rd16 at h; split at h
 simp at h; exact ⟨h.symm, by assumption⟩
 cases h
theorem rd32_some {l : List UInt8} {n x : Nat} (h : rd32 l n = some x) : x = w32 l n ∧ n + 4 ≤ l.length := by
 unfold rd32 at h; split at h
 simp at h; exact ⟨h.symm, by assumption⟩
 cases h
theorem R16.ok {l : List UInt8} {n x o : Nat} (h : R16 l n x o .ok) : rd16 l n = some x ∧ o = n + 2 ∧ x = w16 l n ∧ n + 2 ≤ l.length := by
 rcases h with ⟨_, h1, h2⟩ | ⟨h, _⟩
 exact ⟨h1, h2, rd16_some h1⟩
 cases h
theorem R32.ok {l : List UInt8} {n x o : Nat} (h : R32 l n x o .ok) : rd32 l n = some x ∧ o = n + 4 ∧ x = w32 l n ∧ n + 4 ≤ l.length := by
 rcases h with ⟨_, h1, h2⟩ | ⟨h, _⟩
 exact ⟨h1, h2, rd32_some h1⟩
 cases h
theorem R16.lt {l : List UInt8} {n x o : Nat} {k : EK} (h : R16 l n x o k) : x < 65536 ∧ o ≤ n + 2 ∧ n ≤ o := by
 rcases h with ⟨_, h1, h2⟩ | ⟨_, _, h1, h2⟩
 have := w16_lt l n; rw [(rd16_some h1).1]; omega
 omega
theorem R32.lt {l : List UInt8} {n x o : Nat} {k : EK} (h : R32 l n x o k) : x < 4294967296 ∧ o ≤ n + 4 ∧ n ≤ o := by
 rcases h with ⟨_, h1, h2⟩ | ⟨_, _, h1, h2⟩
 have := w32_lt l n; rw [(rd32_some h1).1]; omega
 omega
theorem R16.bad {l : List UInt8} {n x o : Nat} {k : EK} (h : R16 l n x o k) (hk : k ≠ .ok) : k = .other ∧ rd16 l n = none := by
 rcases h with ⟨h, _⟩ | ⟨h, h2, _⟩
 exact (hk h).elim
 exact ⟨h, h2⟩
theorem R32.bad {l : List UInt8} {n x o : Nat} {k : EK} (h : R32 l n x o k) (hk : k ≠ .ok) : k = .other ∧ rd32 l n = none := by
 rcases h with ⟨h, _⟩ | ⟨h, h2, _⟩
 exact (hk h).elim
 exact ⟨h, h2⟩
theorem R16.badlen {l : List UInt8} {n x o : Nat} {k : EK} (h : R16 l n x o k) (hk : k ≠ .ok) : k = .other ∧ l.length < n + 2 := by
 obtain ⟨h1, h2⟩ := h.bad hk
 refine ⟨h1, ?_⟩
 unfold rd16 at h2
 split at h2
 cases h2
 omega
section
variable {A : Nat → Addr} {V : Vw} {w : World} {l : List UInt8} {mv : Value} {off : Int}
theorem cP (hG : Gl A V) (hV : V.In w) (hb : RB V mv l) (n : Nat) (hn : off = n) (h1 : n ≤ 1152921504606846976) (h2 : l.length ≤ 1152921504606846976) :
  eC Tryz.prog 149 #[mv, .int .i64 off] w fun v w' => St ⟨w, V, V⟩ w' [] ∧ ∃ (x o : Nat) (k : EK) (e : Value), v = .tuple #[.int .u16 x, .int .i64 o, e] ∧ ErrV A e k ∧ R16 l n x o k := by
 subst hn
 obtain ⟨a, cap, rfl, hcap, ha⟩ := hb.form
 have hs := St.start hV
 refine aT [_, _] Tryz.func149 Tryz.ntmps149 Tryz.results149 rfl rfl (dP (dN rfl rfl (dN rfl rfl (dN rfl rfl (aH (aF (dP (dM rfl rfl (lp (bN rfl rfl (i64w (by omega))) rfl (dM rfl rfl (lp (bC Tryz.underlying23 rfl) rfl (lp (cQ rfl rfl) rfl (aH ?_)))))))))))))
 refine bH rfl (fun hc0 => ?_) (fun hc0 => ?_)
 refine aF (bV hs [1] mixed (fun w hs => dI 0 rfl (fun w => aC rfl) rfl rfl (dJ 1 rfl hs rfl (fun w hs => (aO rfl (bR k_57 (hG.ld hs.isIn (g := 12) rfl)))) rfl (dI 2 rfl (fun w => aD rfl) rfl rfl (dI 3 rfl (fun w => aD rfl) rfl rfl (dI 4 rfl (fun w => aD rfl) rfl rfl (bS (by decide +kernel) (aV ⟨_, res3 rfl rfl rfl, ?_⟩))))))))
 exact ⟨hs, 0, n, .other, _, rfl, errv_g (g := 12) rfl (by decide) (by decide), .inr ⟨rfl, by unfold rd16; rw [if_neg (by omega)], rfl, rfl⟩⟩
 obtain ⟨b, p, rfl, hc⟩ := ha (by omega)
 refine aW (aF (bV hs [3, 10] mixed (fun w hs => dI 0 rfl (fun w => aC rfl) rfl rfl (dI 1 rfl (fun w => aC rfl) rfl rfl (dI 2 rfl (fun w => (po_ia es_23 rfl rfl (by omega) (by omega))) rfl rfl (dJ 3 rfl hs rfl (fun w hs => (aO rfl (bR k_5 (ldb hs.isIn hc n (by omega) (by omega))))) rfl (dI 4 rfl (fun w => bY Tryz.underlying5 Tryz.underlying22 rfl rfl) rfl rfl (dI 5 rfl (fun w => (po_shl rfl rfl (by decide) rfl)) rfl rfl (dI 6 rfl (fun w => aC rfl) rfl rfl (dI 7 rfl (fun w => aC rfl) rfl rfl (dI 8 rfl (fun w => (bN rfl rfl (i64w (by omega)))) rfl rfl (dI 9 rfl (fun w => (po_ia es_23 rfl rfl (by omega) (by omega))) rfl rfl (dJ 10 rfl hs rfl (fun w hs => (aO rfl (bR k_5 (ldb hs.isIn hc (n + 1) (by omega) (by omega))))) rfl ?_)))))))))))))
 refine dI 11 rfl (fun w => bY Tryz.underlying5 Tryz.underlying22 rfl rfl) rfl rfl (dI 12 rfl (fun w => (po_or rfl rfl (two_eq (cU _ _) (cU _ _)))) rfl rfl (dI 13 rfl (fun w => aC rfl) rfl rfl (dI 14 rfl (fun w => (bN rfl rfl (i64w (by omega)))) rfl rfl (dI 15 rfl (fun w => aD rfl) rfl rfl (dI 16 rfl (fun w => aD rfl) rfl rfl (dI 17 rfl (fun w => aD rfl) rfl rfl (bS (by decide +kernel) (aV ⟨_, res3 rfl rfl rfl, ?_⟩))))))))
 exact ⟨hs, w16 l n, n + 2, .ok, _, rfl, rfl, .inl ⟨rfl, by unfold rd16; rw [if_pos (by omega)], rfl⟩⟩
theorem c_unpackUint32 (hG : Gl A V) (hV : V.In w) (hb : RB V mv l) (n : Nat) (hn : off = n) (h1 : n ≤ 1152921504606846976) (h2 : l.length ≤ 1152921504606846976) :
  eC Tryz.prog 194 #[mv, .int .i64 off] w fun v w' => St ⟨w, V, V⟩ w' [] ∧ ∃ (x o : Nat) (k : EK) (e : Value), v = .tuple #[.int .u32 x, .int .i64 o, e] ∧ ErrV A e k ∧ R32 l n x o k := by
 subst hn
 obtain ⟨a, cap, rfl, hcap, ha⟩ := hb.form
 have hs := St.start hV
 refine aT [_, _] Tryz.func194 Tryz.ntmps194 Tryz.results194 rfl rfl (dP (dN rfl rfl (dN rfl rfl (dN rfl rfl (aH (aF (dP (dM rfl rfl (lp (bN rfl rfl (i64w (by omega))) rfl (dM rfl rfl (lp (bC Tryz.underlying23 rfl) rfl (lp (cQ rfl rfl) rfl (aH ?_)))))))))))))
 refine bH rfl (fun hc0 => ?_) (fun hc0 => ?_)
 refine aF (bV hs [1] mixed (fun w hs => dI 0 rfl (fun w => aC rfl) rfl rfl (dJ 1 rfl hs rfl (fun w hs => (aO rfl (bR k_57 (hG.ld hs.isIn (g := 12) rfl)))) rfl (dI 2 rfl (fun w => aD rfl) rfl rfl (dI 3 rfl (fun w => aD rfl) rfl rfl (dI 4 rfl (fun w => aD rfl) rfl rfl (bS (by decide +kernel) (aV ⟨_, res3 rfl rfl rfl, ?_⟩))))))))
 exact ⟨hs, 0, n, .other, _, rfl, errv_g (g := 12) rfl (by decide) (by decide), .inr ⟨rfl, by unfold rd32; rw [if_neg (by omega)], rfl, rfl⟩⟩
 obtain ⟨b, p, rfl, hc⟩ := ha (by omega)
 refine aW (aF (bV hs [3, 10, 18, 26] mixed (fun w hs => dI 0 rfl (fun w => aC rfl) rfl rfl (dI 1 rfl (fun w => aC rfl) rfl rfl (dI 2 rfl (fun w => (po_ia es_23 rfl rfl (by omega) (by omega))) rfl rfl (dJ 3 rfl hs rfl (fun w hs => (aO rfl (bR k_5 (ldb hs.isIn hc n (by omega) (by omega))))) rfl (dI 4 rfl (fun w => bY Tryz.underlying5 Tryz.underlying27 rfl rfl) rfl rfl (dI 5 rfl (fun w => (po_shl rfl rfl (by decide) rfl)) rfl rfl (dI 6 rfl (fun w => aC rfl) rfl rfl (dI 7 rfl (fun w => aC rfl) rfl rfl (dI 8 rfl (fun w => (bN rfl rfl (i64w (by omega)))) rfl rfl (dI 9 rfl (fun w => (po_ia es_23 rfl rfl (by omega) (by omega))) rfl rfl (dJ 10 rfl hs rfl (fun w hs => (aO rfl (bR k_5 (ldb hs.isIn hc (n + 1) (by omega) (by omega))))) rfl ?_)))))))))))))
 refine dI 11 rfl (fun w => bY Tryz.underlying5 Tryz.underlying27 rfl rfl) rfl rfl (dI 12 rfl (fun w => (po_shl rfl rfl (by decide) rfl)) rfl rfl (dI 13 rfl (fun w => po_or rfl rfl rfl) rfl rfl (dI 14 rfl (fun w => aC rfl) rfl rfl (dI 15 rfl (fun w => aC rfl) rfl rfl (dI 16 rfl (fun w => (bN rfl rfl (i64w (by omega)))) rfl rfl (dI 17 rfl (fun w => (po_ia es_23 rfl rfl (by omega) (by omega))) rfl rfl (dJ 18 rfl hs rfl (fun w hs => (aO rfl (bR k_5 (ldb hs.isIn hc (n + 2) (by omega) (by omega))))) rfl (dI 19 rfl (fun w => bY Tryz.underlying5 Tryz.underlying27 rfl rfl) rfl rfl (dI 20 rfl (fun w => (po_shl rfl rfl (by decide) rfl)) rfl rfl (dI 21 rfl (fun w => po_or rfl rfl rfl) rfl rfl (dI 22 rfl (fun w => aC rfl) rfl rfl (dI 23 rfl (fun w => aC rfl) rfl rfl (dI 24 rfl (fun w => (bN rfl rfl (i64w (by omega)))) rfl rfl ?_)))))))))))))
 refine dI 25 rfl (fun w => (po_ia es_23 rfl rfl (by omega) (by omega))) rfl rfl (dJ 26 rfl hs rfl (fun w hs => (aO rfl (bR k_5 (ldb hs.isIn hc (n + 3) (by omega) (by omega))))) rfl (dI 27 rfl (fun w => bY Tryz.underlying5 Tryz.underlying27 rfl rfl) rfl rfl (dI 28 rfl (fun w => (po_or rfl rfl (four_eq (cU _ _) (cU _ _) (cU _ _) (cU _ _)))) rfl rfl (dI 29 rfl (fun w => aD rfl) rfl rfl (bS (by decide +kernel) (dP (dM rfl rfl (dM rfl rfl (lp (bN rfl rfl (i64w (by omega))) rfl (dN rfl rfl (dN rfl rfl (dN rfl rfl (aH ?_)))))))))))))
 refine aV ⟨_, res3 rfl rfl rfl, ?_⟩
 exact ⟨hs, w32 l n, n + 4, .ok, _, rfl, rfl, .inl ⟨rfl, by unfold rd32; rw [if_pos (by omega)], rfl⟩⟩
end
end Go.Proofs.YtgpfjlfkaoffeaaGreatDoor
namespace Go.Proofs.YtgpfjlfkaoffeaaGreatDoor
open Go
section
variable {A : Nat → Addr} {V : Vw} {w : World} {l : List UInt8} {mv : Value} {off : Int}
theorem c_unpackType (hG : Gl A V) (hV : V.In w) (hb : RB V mv l) (n : Nat) (hn : off = n) (h1 : n ≤ 1152921504606846976) (h2 : l.length ≤ 1152921504606846976) :
  eC Tryz.prog 152 #[mv, .int .i64 off] w fun v w' => St ⟨w, V, V⟩ w' [] ∧ ∃ (x o : Nat) (k : EK) (e : Value), v = .tuple #[.int .u16 x, .int .i64 o, e] ∧ ErrV A e k ∧ R16 l n x o k := by
 have hs := St.start hV
 refine aT [_, _] Tryz.func152 Tryz.ntmps152 Tryz.results152 rfl rfl (dP (dN rfl rfl (dN rfl rfl (dN rfl rfl (aH (dP (dM rfl rfl (dM rfl rfl (aZ ok_149 rfl rfl (cP hG hs.isIn hb n hn h1 h2) rfl (fun v13 w HF => ?_))))))))))
 obtain ⟨hc, x, o, k, e, rfl, he, hr⟩ := HF
 replace hs := hs.frame hc
 refine dM rfl rfl (dO rfl rfl rfl (dO rfl rfl rfl (dO rfl rfl rfl (dN rfl rfl (dN rfl rfl (dN rfl rfl (aH (dP (dM rfl rfl (dM rfl rfl (dM rfl rfl (dN rfl rfl (dN rfl rfl ?_)))))))))))))
 refine dN rfl rfl (aH (aV ⟨_, res3 rfl rfl rfl, ?_⟩))
 exact ⟨hs, x, o, k, e, rfl, he, hr⟩
theorem c_unpackClass (hG : Gl A V) (hV : V.In w) (hb : RB V mv l) (n : Nat) (hn : off = n) (h1 : n ≤ 1152921504606846976) (h2 : l.length ≤ 1152921504606846976) :
  eC Tryz.prog 153 #[mv, .int .i64 off] w fun v w' => St ⟨w, V, V⟩ w' [] ∧ ∃ (x o : Nat) (k : EK) (e : Value), v = .tuple #[.int .u16 x, .int .i64 o, e] ∧ ErrV A e k ∧ R16 l n x o k := by
 have hs := St.start hV
 refine aT [_, _] Tryz.func153 Tryz.ntmps153 Tryz.results153 rfl rfl (dP (dN rfl rfl (dN rfl rfl (dN rfl rfl (aH (dP (dM rfl rfl (dM rfl rfl (aZ ok_149 rfl rfl (cP hG hs.isIn hb n hn h1 h2) rfl (fun v13 w HF => ?_))))))))))
 obtain ⟨hc, x, o, k, e, rfl, he, hr⟩ := HF
 replace hs := hs.frame hc
 refine dM rfl rfl (dO rfl rfl rfl (dO rfl rfl rfl (dO rfl rfl rfl (dN rfl rfl (dN rfl rfl (dN rfl rfl (aH (dP (dM rfl rfl (dM rfl rfl (dM rfl rfl (dN rfl rfl (dN rfl rfl ?_)))))))))))))
 refine dN rfl rfl (aH (aV ⟨_, res3 rfl rfl rfl, ?_⟩))
 exact ⟨hs, x, o, k, e, rfl, he, hr⟩
def RSk (l : List UInt8) (n d o : Nat) (k : EK) : Prop := (k = .ok ∧ n + d ≤ l.length ∧ o = n + d) ∨ (k = .other ∧ l.length < n + d ∧ o = n)
def RPass (l : List UInt8) (n o : Nat) (k : EK) : Prop := (k = .ok ∧ pass l n = some o) ∨ (k = .other ∧ pass l n = none)
end
end Go.Proofs.YtgpfjlfkaoffeaaGreatDoor
namespace Go.Proofs.YtgpfjlfkaoffeaaGreatDoor
open Go
def RName (l : List UInt8) (n o : Nat) (k : EK) (out : List UInt8) (z : Nat) : Prop := (k = .ok ∧ name l n = some (out, o) ∧ z = out.length) ∨ (k = .other ∧ name l n = none)
theorem RName.ok {l : List UInt8} {n o : Nat} {out : List UInt8} {z : Nat} (h : RName l n o .ok out z) : name l n = some (out, o) ∧ z = out.length := by
 rcases h with ⟨_, h1⟩ | ⟨h, _⟩
 exact h1
 cases h
theorem RName.bad {l : List UInt8} {n o : Nat} {k : EK} {out : List UInt8} {z : Nat} (h : RName l n o k out z) (hk : k ≠ .ok) : k = .other ∧ name l n = none := by
 rcases h with ⟨h, _⟩ | h
 exact (hk h).elim
 exact h
theorem orDot_of {l : List UInt8} (h : l.length ≠ 0) : orDot l = l := by
 cases l with
 | nil => exact absurd rfl h
 | cons _ _ => rfl
theorem name_eq (b : List UInt8) (i : Nat) : name b i = fS b i [] 0 i := nameS_e b i [] 0 0 i rfl
section
variable {A : Nat → Addr} {V : Vw} {w0 : World} {l : List UInt8} {mv : Value} {off : Int}
def nmE (nb np n : Nat) (mv : Value) (i : Nat) (out : List UInt8) (jumps e : Nat) : Env :=
 eH (eH (eH (eH (eH (eH (eH emp 11 (.slice (some ⟨nb, np, none⟩) out.length 255)) 10 (.int .i64 jumps)) 9 (.int .i64 e)) 8 (.int .i64 i)) 2 (.int .i64 n)) 1 mv) 0 (.pointer (some ⟨nb, np, none⟩))
set_option maxHeartbeats 1000000 in
theorem c_nameUnpack (hG : Gl A V) (hV : V.In w0) (hb : RB V mv l) {nb np : Nat} {E : TypeId} {pre post : List Value} (hpre : pre.length = np)
  (hown : w0.heap[nb]? = some (.cells (pre ++ nmC [] 0 ++ post).toArray E (0, 0))) (hvn : V nb = none) (n : Nat) (hn : off = n) (h1 : n ≤ 1152921504606846976) (h2 : l.length ≤ 1152921504606846976) :
  eC Tryz.prog 151 #[.pointer (some ⟨nb, np, none⟩), mv, .int .i64 off] w0 fun v w' => ∃ (o : Nat) (k : EK) (e : Value) (out : List UInt8) (z : Nat), v = .tuple #[.int .i64 o, e] ∧ ErrV A e k ∧
   out.length ≤ 254 ∧ z ≤ 254 ∧ St ⟨w0, V, V⟩ w' [(nb, .cells (pre ++ nmC out z ++ post).toArray E (0, 0))] ∧ RName l n o k out z := by
 subst hn
 obtain ⟨a, cap, rfl, hcap, ha⟩ := hb.form
 have hs := St.start1 hV hown (bU _ _) hvn
 refine aT [_, _, _] Tryz.func151 Tryz.ntmps151 Tryz.results151 rfl rfl (dP (dN rfl rfl (dN rfl rfl (aH (e_scope (dP (dM rfl rfl (dN rfl rfl (aH (dP (dM rfl rfl (dN rfl rfl (aH ?_)))))))))))))
 refine dP (dN rfl rfl (aH (dP (dM rfl rfl (lp (aN rfl) rfl (lp (po_fa0' fo_86_0 rfl) rfl (lp (po_slice_arr0 ar_84 (by decide) rfl) rfl (dN rfl rfl (aH (aF (e_label (aF (bQ ?_)))))))))))))
 refine dC (fun g : Nat × List UInt8 × Nat × Nat => nmE nb np n (.slice a l.length cap) g.1 g.2.1 g.2.2.1 g.2.2.2) (fun g w' => St ⟨w0, V, V⟩ w' [(nb, .cells (pre ++ nmC g.2.1 0 ++ post).toArray E (0, 0))] ∧ fS l g.1 g.2.1 g.2.2.1 g.2.2.2 = fS l n [] 0 n ∧ g.1 ≤ 1152921504606846976 ∧ g.2.1.length ≤ 254 ∧ g.2.2.1 ≤ 10) (fun g => (11 - g.2.2.1) * (l.length + 2) + (l.length + 1 - g.1)) (n, [], 0, n) (aL rfl (aL rfl (aL rfl (aL rfl (aL rfl (aL rfl (aL rfl (bG _)))))))) ⟨hs, rfl, h1, by simp, by simp⟩ ?_
 clear hs
 rintro ⟨i, out, jumps, e⟩ w ⟨hs, hp, hi, ho, hj⟩
 simp only at hs hp hi ho hj ⊢
 rw [← name_eq] at hp
 refine bQ (aF (dP (dM rfl rfl (dM rfl rfl (lp (bC Tryz.underlying23 rfl) rfl (lp (po_geq rfl rfl) rfl (aH (bH rfl (fun hc0 => ?_) (fun hc0 => ?_)))))))))
 refine aF (bV hs [1] mixed (fun w hs => dI 0 rfl (fun w => aC rfl) rfl rfl (dJ 1 rfl hs rfl (fun w hs => (aO rfl (bR k_57 (hG.ld hs.isIn (g := 12) rfl)))) rfl (dI 2 rfl (fun w => aD rfl) rfl rfl (dI 3 rfl (fun w => aD rfl) rfl rfl (bS (by decide +kernel) (aV ⟨_, fX rfl rfl, ?_⟩)))))))
 exact ⟨n, .other, _, out, 0, rfl, errv_g (g := 12) rfl (by decide) (by decide), ho, by omega, hs, .inr ⟨rfl, by rw [← hp, fS, dif_neg (by omega)]⟩⟩
 · obtain ⟨b, p, rfl, hc⟩ := ha (by omega)
   have hlt := cU l i
   have hm0 := mask0 _ hlt
   have hm3 := mask3 _ hlt
   have hlen : i < l.length := by omega
   refine aW (dP (dM rfl rfl (dM rfl rfl (lp (po_ia es_23 rfl rfl (by omega) (by omega)) rfl (lp (aO rfl (bR k_5 (ldb hs.isIn hc i rfl (by omega)))) rfl (lp (bY Tryz.underlying5 Tryz.underlying3 rfl (fV (c := eB l i) rfl (by omega))) rfl (dN rfl rfl (aH (dP (dM rfl rfl (lp (bN rfl rfl (fV (c := i + 1) (by omega) (by omega))) rfl (dN rfl rfl (aH ?_)))))))))))))
   refine dP (dM rfl rfl (lp (po_and rfl rfl (i64and (a := eB l i) (b := 192) (by omega) (by omega))) rfl (aH (bQ (dP (lp (bI rfl rfl) rfl (dN rfl rfl (aH (bH rfl (fun hc1 => ?_) (fun hc1 => ?_))))))))))
   · refine aF (dP (dM rfl rfl (lp (bI rfl rfl) rfl (aH (bH rfl (fun hc2 => ?_) (fun hc2 => ?_))))))
     · refine eT (aF (dP (dM rfl rfl (lp (bC Tryz.underlying23 rfl) rfl (lp (bI rfl rfl) rfl (aH (bH rfl (fun hc3 => ?_) (fun hc3 => ?_))))))))
       · have hout : out = [] := List.eq_nil_of_length_eq_zero (by omega)
         subst hout
         refine aB (dM rfl rfl (aJ (o_bslice (vls := [[.int .u8 46]]) el_23 hs rfl rfl rfl rfl (by simp) (by decide) (by decide) rfl (fun bs w hbs hes hs => aJ (o_appName (kk := 1) (news := [46]) el_23 (.inr ⟨_, Tryz.underlying23⟩) hs hpre rfl rfl (src_own (k := 0) hs rfl rfl) rfl rfl (by simp) rfl rfl (fun w hs => ?_))))))
         replace hs := hs.drop hbs
         refine dN rfl rfl (aH (dP (dM rfl rfl (dM rfl rfl (lp (bC Tryz.underlying23 rfl) rfl (lp (bY Tryz.underlying3 Tryz.underlying5 rfl (u8c rfl (by (simp; done)))) rfl (lp (aN rfl) rfl (lp (bD fo_86_1 rfl) rfl (aJ (o_storeP (k := 0) hs k_5 rfl rfl rfl rfl rfl (by rw [List.length_append, List.length_append, cM (by (simp; done))]; omega) (nmC_set hpre (by (simp; done))) rfl (fun w hs => aH (aF (dP (dM rfl rfl ?_))))))))))))))
         refine lp (bI rfl rfl) rfl (aH (bH rfl (fun hc4 => ?_) (fun hc4 => ?_)))
         refine aB (dM rfl rfl (dN rfl rfl (aH (dP (dM rfl rfl (dN rfl rfl (dN rfl rfl (aH (aV ⟨_, fX rfl rfl, ?_⟩)))))))))
         exact ⟨_, .ok, _, _, _, rfl, rfl, by simp, by simp, hs, .inl ⟨rfl, by rw [← hp, fS, dif_pos hlen, if_pos (by omega), if_neg (by simp [orDot]), if_pos (by omega)]; rfl, rfl⟩⟩
         refine aW (dP (dM rfl rfl (dN rfl rfl (dN rfl rfl (aH (aV ⟨_, fX rfl rfl, ?_⟩))))))
         exact ⟨_, .ok, _, _, _, rfl, rfl, by simp, by simp, hs, .inl ⟨rfl, by rw [← hp, fS, dif_pos hlen, if_pos (by omega), if_neg (by simp [orDot]), if_neg (by omega)]; rfl, rfl⟩⟩
       have hout := orDot_of (l := out) (by omega)
       refine aW (dP (dM rfl rfl (dM rfl rfl (lp (bC Tryz.underlying23 rfl) rfl (lp (bY Tryz.underlying3 Tryz.underlying5 rfl (u8c rfl (by omega))) rfl (lp (aN rfl) rfl (lp (bD fo_86_1 rfl) rfl (aJ (o_storeP (k := 0) hs k_5 rfl rfl rfl rfl rfl (by rw [List.length_append, List.length_append, cM (by omega)]; omega) (nmC_set hpre (by omega)) rfl (fun w hs => aH (aF (dP (dM rfl rfl (lp (bI rfl rfl) rfl ?_))))))))))))))
       refine aH (bH rfl (fun hc5 => ?_) (fun hc5 => ?_))
       refine aB (dM rfl rfl (dN rfl rfl (aH (dP (dM rfl rfl (dN rfl rfl (dN rfl rfl (aH (aV ⟨_, fX rfl rfl, ?_⟩)))))))))
       exact ⟨_, .ok, _, _, _, rfl, rfl, ho, ho, hs, .inl ⟨rfl, by rw [← hp, fS, dif_pos hlen, if_pos (by omega), if_neg (by rw [hout]; omega), if_pos (by omega), hout], rfl⟩⟩
       refine aW (dP (dM rfl rfl (dN rfl rfl (dN rfl rfl (aH (aV ⟨_, fX rfl rfl, ?_⟩))))))
       exact ⟨_, .ok, _, _, _, rfl, rfl, ho, ho, hs, .inl ⟨rfl, by rw [← hp, fS, dif_pos hlen, if_pos (by omega), if_neg (by rw [hout]; omega), if_neg (by omega), hout], rfl⟩⟩
     refine aW (dP (dM rfl rfl (dM rfl rfl (lp (bN rfl rfl (fV (c := i + 1 + eB l i) (by omega) (by omega))) rfl (dN rfl rfl (aH (aF (dP (dM rfl rfl (dM rfl rfl (lp (bC Tryz.underlying23 rfl) rfl (lp (cQ rfl rfl) rfl (aH ?_)))))))))))))
     refine bH rfl (fun hc6 => ?_) (fun hc6 => ?_)
     refine aF (bV hs [1] mixed (fun w hs => dI 0 rfl (fun w => aC rfl) rfl rfl (dJ 1 rfl hs rfl (fun w hs => (aO rfl (bR k_57 (hG.ld hs.isIn (g := 13) rfl)))) rfl (dI 2 rfl (fun w => aD rfl) rfl rfl (dI 3 rfl (fun w => aD rfl) rfl rfl (bS (by decide +kernel) (aV ⟨_, fX rfl rfl, ?_⟩)))))))
     exact ⟨n, .other, _, out, 0, rfl, errv_g (g := 13) rfl (by decide) (by decide), ho, by omega, hs, .inr ⟨rfl, by rw [← hp, fS, dif_pos hlen, if_neg (by omega), dif_pos (by omega), dif_neg (by omega)]⟩⟩
     refine aW (aF (aF ?_))
     have hc64 : eB l i < 64 := by omega
     have hc1 : 0 < eB l i := by omega
     have hend : i + 1 + eB l i ≤ l.length := by omega
     have hsl := seg_len hend
     refine aB (dM rfl rfl (dM rfl rfl (dM rfl rfl (lp (po_part (i + 1) (eB l i) es_23 rfl rfl rfl rfl rfl (by omega) (by omega)) rfl (lp (bC Tryz.underlying23 rfl) rfl (dM rfl rfl (aH (bQ (dC (fun j : Nat => eH (eH (eH (eH (eH (nmE nb np n (.slice (some ⟨b, p, none⟩) l.length cap) (i + 1) out jumps e) 12 (.int .i64 (eB l i))) 13 (.int .i64 (i + 1 + eB l i : Nat))) 56 (.slice (some ⟨b, p + (i + 1), none⟩) (eB l i) (cap - (i + 1)))) 57 (.int .i64 (eB l i))) 58 (.int .i64 j)) (fun j w' => St ⟨w0, V, V⟩ w' [(nb, .cells (pre ++ nmC out 0 ++ post).toArray E (0, 0))] ∧ j ≤ eB l i ∧ ∀ m, m < j → eB (seg l (i + 1) (eB l i)) m ≠ 46) (fun j => eB l i - j) 0 (aL rfl (aL rfl (aL rfl (aL rfl (aL rfl (aL rfl (aL rfl (aL rfl (aL rfl (aL rfl (aL rfl (aL rfl (bG _))))))))))))) ⟨hs, by omega, by omega⟩ ?_)))))))))
     clear hs
     rintro j w ⟨hs, hjc, hno⟩
     refine dP (lp (cY rfl rfl) rfl (aH (aF (bH rfl (fun hc7 => ?_) (fun hc7 => ?_)))))
     refine aW (aF (bQ (dP (lp (po_ia es_23 rfl rfl (by omega) (by omega)) rfl (lp (aO rfl (bR k_5 (ldb (l := seg l (i + 1) (eB l i)) hs.isIn (cells_seg hc hend) j rfl (by omega)))) rfl (dN rfl rfl (aH (dP (dM rfl rfl (lp (bI rfl rfl) rfl (aH (bH rfl (fun hc8 => ?_) (fun hc8 => ?_)))))))))))))
     refine aF (bV hs [1] mixed (fun w hs => dI 0 rfl (fun w => aC rfl) rfl rfl (dJ 1 rfl hs rfl (fun w hs => (aO rfl (bR k_57 (hG.ld hs.isIn (g := 14) rfl)))) rfl (dI 2 rfl (fun w => aD rfl) rfl rfl (dI 3 rfl (fun w => aD rfl) rfl rfl (bS (by decide +kernel) (aV ⟨_, fX rfl rfl, ?_⟩)))))))
     exact ⟨n, .other, _, out, 0, rfl, errv_g (g := 14) rfl (by decide) (by decide), ho, by omega, hs, .inr ⟨rfl, by
      have h46 := has46.2 ⟨j, by omega, Int.ofNat.inj hc8⟩
      rw [← hp, fS, dif_pos hlen, if_neg (by omega), dif_pos (by omega), dif_pos hend, if_pos h46]⟩⟩
     refine aW (aB (lp (bN rfl rfl (fV (c := j + 1) (by omega) (by omega))) rfl (dM rfl rfl (aH ?_))))
     exact ⟨j + 1, aL rfl (aL rfl (aL rfl (aL rfl (aL rfl (aL rfl (aL rfl (aL rfl (aL rfl (aL rfl (aL rfl (aL rfl (bG _)))))))))))), ⟨hs, by omega, fun m hm => by
      by_cases hmj : m = j
      subst hmj; omega
      exact hno m (by omega)⟩, by omega⟩
     refine eT (aF (aF ?_))
     have hnot : ¬ (seg l (i + 1) (eB l i)).contains 46 = true := fun h => by
      obtain ⟨m, hm1, hm2⟩ := has46.1 h
      exact hno m (by omega) hm2
     refine aB (dM rfl rfl (lp (bC Tryz.underlying23 rfl) rfl (dM rfl rfl (dM rfl rfl (lp (po_sub rfl rfl (fV (c := eB l i) (by omega) (by omega))) rfl (lp (bN rfl rfl (fV (c := out.length + eB l i) (by omega) (by omega))) rfl (lp (po_geq rfl rfl) rfl (aH (bH rfl (fun hc9 => ?_) (fun hc9 => ?_))))))))))
     refine aF (bV hs [1] mixed (fun w hs => dI 0 rfl (fun w => aC rfl) rfl rfl (dJ 1 rfl hs rfl (fun w hs => (aO rfl (bR k_57 (hG.ld hs.isIn (g := 7) rfl)))) rfl (dI 2 rfl (fun w => aD rfl) rfl rfl (dI 3 rfl (fun w => aD rfl) rfl rfl (bS (by decide +kernel) (aV ⟨_, fX rfl rfl, ?_⟩)))))))
     exact ⟨n, .other, _, out, 0, rfl, errv_g (g := 7) rfl (by decide) (by decide), ho, by omega, hs, .inr ⟨rfl, by
      rw [← hp, fS, dif_pos hlen, if_neg (by omega), dif_pos (by omega), dif_pos hend, if_neg hnot]
      exact nameS_long _ _ _ _ _ (by simp; omega)⟩⟩
     refine aW (dP (dM rfl rfl (dM rfl rfl (dM rfl rfl (dM rfl rfl (lp (po_part (i + 1) (eB l i) es_23 rfl rfl rfl rfl rfl (by omega) (by omega)) rfl (aJ (o_appName (kk := 0) (news := seg l (i + 1) (eB l i)) el_23 (.inr ⟨_, Tryz.underlying23⟩) hs hpre rfl rfl (src_seg hs.isIn hc hend) hsl.symm rfl (by omega) rfl rfl (fun w hs => dN rfl rfl (aH (dP (dM rfl rfl (aJ (o_bslice (vls := [[.int .u8 46]]) el_23 hs rfl rfl rfl rfl (by simp) (by decide) (by decide) rfl (fun bs w hbs hes hs => aJ (o_appName (kk := 1) (news := [46]) el_23 (.inr ⟨_, Tryz.underlying23⟩) hs hpre rfl rfl (src_own (k := 0) hs rfl rfl) rfl rfl (by simp; omega) rfl rfl (fun w hs => ?_)))))))))))))))))
     replace hs := hs.drop hbs
     refine dN rfl rfl (aH (aB (dM rfl rfl (dN rfl rfl (aH ?_)))))
     exact ⟨(i + 1 + eB l i, out ++ seg l (i + 1) (eB l i) ++ [46], jumps, e), aL rfl (aL rfl (aL rfl (aL rfl (aL rfl (aL rfl (aL rfl (bG _))))))), ⟨hs, by
      rw [← name_eq, ← hp]
      conv => rhs; rw [fS, dif_pos hlen, if_neg (by omega), dif_pos (by omega), dif_pos hend, if_neg hnot], by simp only; omega, by simp; omega, hj⟩, by simp only; omega⟩
   refine dP (lp (bI rfl rfl) rfl (dN rfl rfl (aH (bH rfl (fun hc10 => ?_) (fun hc10 => ?_)))))
   refine aF (dP (dM rfl rfl (dM rfl rfl (lp (bC Tryz.underlying23 rfl) rfl (lp (po_geq rfl rfl) rfl (aH (bH rfl (fun hc11 => ?_) (fun hc11 => ?_))))))))
   refine aF (bV hs [1] mixed (fun w hs => dI 0 rfl (fun w => aC rfl) rfl rfl (dJ 1 rfl hs rfl (fun w hs => (aO rfl (bR k_57 (hG.ld hs.isIn (g := 15) rfl)))) rfl (dI 2 rfl (fun w => aD rfl) rfl rfl (dI 3 rfl (fun w => aD rfl) rfl rfl (bS (by decide +kernel) (aV ⟨_, fX rfl rfl, ?_⟩)))))))
   exact ⟨n, .other, _, out, 0, rfl, errv_g (g := 15) rfl (by decide) (by decide), ho, by omega, hs, .inr ⟨rfl, by
    rw [← hp, fS, dif_pos hlen, if_neg (by omega), dif_neg (by omega), if_pos (by omega), if_neg (by omega)]⟩⟩
   refine aW (dP (dM rfl rfl (dM rfl rfl (lp (po_ia es_23 rfl rfl (by omega) (by omega)) rfl (lp (aO rfl (bR k_5 (ldb hs.isIn hc (i + 1) rfl (by omega)))) rfl (dN rfl rfl (aH (dP (dM rfl rfl (lp (bN rfl rfl (fV (c := i + 2) (by omega) (by omega))) rfl (dN rfl rfl (aH (aF ?_)))))))))))))
   refine dP (dM rfl rfl (lp (bI rfl rfl) rfl (aH (bH rfl (fun hc12 => ?_) (fun hc12 => ?_)))))
   refine aB (dM rfl rfl (dN rfl rfl (aH (aF (dP (dM rfl rfl (lp (bN rfl rfl (fV (c := jumps + 1) (by omega) (by omega))) rfl (dN rfl rfl (aH (dP (dM rfl rfl (lp (cQ rfl rfl) rfl (aH ?_)))))))))))))
   refine bH rfl (fun hc13 => ?_) (fun hc13 => ?_)
   refine aF (bV hs [1] mixed (fun w hs => dI 0 rfl (fun w => aC rfl) rfl rfl (dJ 1 rfl hs rfl (fun w hs => (aO rfl (bR k_57 (hG.ld hs.isIn (g := 16) rfl)))) rfl (dI 2 rfl (fun w => aD rfl) rfl rfl (dI 3 rfl (fun w => aD rfl) rfl rfl (bS (by decide +kernel) (aV ⟨_, fX rfl rfl, ?_⟩)))))))
   exact ⟨n, .other, _, out, 0, rfl, errv_g (g := 16) rfl (by decide) (by decide), ho, by omega, hs, .inr ⟨rfl, by
    rw [← hp, fS, dif_pos hlen, if_neg (by omega), dif_neg (by omega), if_pos (by omega), if_pos (by omega), dif_neg (by omega)]⟩⟩
   refine aW (aB (dM rfl rfl (lp (po_xor rfl rfl ((i64xor (a := eB l i) (b := 192) (by omega) (by omega)).trans (by rw [mask3x _ hlt (by omega)]))) rfl (lp (po_shl rfl rfl (by decide) (i64shl8 (by omega))) rfl (dM rfl rfl (lp (bY Tryz.underlying5 Tryz.underlying3 rfl (fV (c := eB l (i + 1)) rfl (by have := cU l (i + 1); omega))) rfl (lp (po_or rfl rfl ((i64or (by omega) (by have := cU l (i + 1); omega)).trans (by rw [or_hi _ _ (cU _ _)]))) rfl (dN rfl rfl (aH ?_)))))))))
   have hb1 := cU l (i + 1)
   exact ⟨((eB l i - 192) * 256 + eB l (i + 1), out, jumps + 1, i + 2), aL rfl (aL rfl (aL rfl (aL rfl (aL rfl (aL rfl (aL rfl (bG _))))))), ⟨hs, by
    rw [← name_eq, ← hp]
    conv => rhs; rw [fS, dif_pos hlen, if_neg (by omega), dif_neg (by omega), if_pos (by omega), if_pos (by omega), dif_pos (by omega), if_pos (by omega)], by simp only; omega, ho, by simp only; omega⟩, by
    have : (11 - jumps) = (11 - (jumps + 1)) + 1 := by omega
    simp only
    rw [this, Nat.add_mul]
    omega⟩
   refine aW (aF (dP (dM rfl rfl (lp (bN rfl rfl (fV (c := jumps + 1) (by omega) (by omega))) rfl (dN rfl rfl (aH (dP (dM rfl rfl (lp (cQ rfl rfl) rfl (aH (bH rfl (fun hc14 => ?_) (fun hc14 => ?_))))))))))))
   refine aF (bV hs [1] mixed (fun w hs => dI 0 rfl (fun w => aC rfl) rfl rfl (dJ 1 rfl hs rfl (fun w hs => (aO rfl (bR k_57 (hG.ld hs.isIn (g := 16) rfl)))) rfl (dI 2 rfl (fun w => aD rfl) rfl rfl (dI 3 rfl (fun w => aD rfl) rfl rfl (bS (by decide +kernel) (aV ⟨_, fX rfl rfl, ?_⟩)))))))
   exact ⟨n, .other, _, out, 0, rfl, errv_g (g := 16) rfl (by decide) (by decide), ho, by omega, hs, .inr ⟨rfl, by
    rw [← hp, fS, dif_pos hlen, if_neg (by omega), dif_neg (by omega), if_pos (by omega), if_pos (by omega), dif_neg (by omega)]⟩⟩
   refine aW (aB (dM rfl rfl (lp (po_xor rfl rfl ((i64xor (a := eB l i) (b := 192) (by omega) (by omega)).trans (by rw [mask3x _ hlt (by omega)]))) rfl (lp (po_shl rfl rfl (by decide) (i64shl8 (by omega))) rfl (dM rfl rfl (lp (bY Tryz.underlying5 Tryz.underlying3 rfl (fV (c := eB l (i + 1)) rfl (by have := cU l (i + 1); omega))) rfl (lp (po_or rfl rfl ((i64or (by omega) (by have := cU l (i + 1); omega)).trans (by rw [or_hi _ _ (cU _ _)]))) rfl (dN rfl rfl (aH ?_)))))))))
   have hb1 := cU l (i + 1)
   exact ⟨((eB l i - 192) * 256 + eB l (i + 1), out, jumps + 1, e), aL rfl (aL rfl (aL rfl (aL rfl (aL rfl (aL rfl (aL rfl (bG _))))))), ⟨hs, by
    rw [← name_eq, ← hp]
    conv => rhs; rw [fS, dif_pos hlen, if_neg (by omega), dif_neg (by omega), if_pos (by omega), if_pos (by omega), dif_pos (by omega), if_neg (by omega)], by simp only; omega, ho, by simp only; omega⟩, by
    have : (11 - jumps) = (11 - (jumps + 1)) + 1 := by omega
    simp only
    rw [this, Nat.add_mul]
    omega⟩
   refine aF (bV hs [1] mixed (fun w hs => dI 0 rfl (fun w => aC rfl) rfl rfl (dJ 1 rfl hs rfl (fun w hs => (aO rfl (bR k_57 (hG.ld hs.isIn (g := 17) rfl)))) rfl (dI 2 rfl (fun w => aD rfl) rfl rfl (dI 3 rfl (fun w => aD rfl) rfl rfl (bS (by decide +kernel) (aV ⟨_, fX rfl rfl, ?_⟩)))))))
   exact ⟨n, .other, _, out, 0, rfl, errv_g (g := 17) rfl (by decide) (by decide), ho, by omega, hs, .inr ⟨rfl, by
    rw [← hp, fS, dif_pos hlen, if_neg (by omega), dif_neg (by omega), if_neg (by omega)]⟩⟩
end
end Go.Proofs.YtgpfjlfkaoffeaaGreatDoor
namespace Go.Proofs.YtgpfjlfkaoffeaaGreatDoor
open Go
section
variable {A : Nat → Addr} {V : Vw} {w0 : World} {l : List UInt8} {mv : Value} {off : Int}
def RText (l : List UInt8) (n : Nat) (t : List UInt8) (o : Nat) (k : EK) : Prop :=
 (k = .ok ∧ n < l.length ∧ n + 1 + eB l n ≤ l.length ∧ t = seg l (n + 1) (eB l n) ∧ o = n + 1 + eB l n) ∨ (k = .other ∧ ¬ (n < l.length ∧ n + 1 + eB l n ≤ l.length) ∧ t = [] ∧ o = n)
theorem c_unpackText (hG : Gl A V) (hV : V.In w0) (hb : RB V mv l) (n : Nat) (hn : off = n) (h1 : n ≤ 1152921504606846976) (h2 : l.length ≤ 1152921504606846976) :
  eC Tryz.prog 195 #[mv, .int .i64 off] w0 fun v w' => St ⟨w0, V, V⟩ w' [] ∧ ∃ (t : List UInt8) (o : Nat) (k : EK) (e : Value), v = .tuple #[.string (fB t), .int .i64 o, e] ∧ ErrV A e k ∧ RText l n t o k := by
 subst hn
 obtain ⟨a, cap, rfl, hcap, ha⟩ := hb.form
 have hs := St.start hV
 refine aT [_, _] Tryz.func195 Tryz.ntmps195 Tryz.results195 rfl rfl (dP (dN rfl rfl (dN rfl rfl (dN rfl rfl (aH (aF (dP (dM rfl rfl (dM rfl rfl (lp (bC Tryz.underlying23 rfl) rfl (lp (po_geq rfl rfl) rfl (aH (bH rfl (fun hc0 => ?_) (fun hc0 => ?_))))))))))))))
 refine aF (bV hs [1] mixed (fun w hs => dI 0 rfl (fun w => aC rfl) rfl rfl (dJ 1 rfl hs rfl (fun w hs => (aO rfl (bR k_57 (hG.ld hs.isIn (g := 12) rfl)))) rfl (dI 2 rfl (fun w => aD rfl) rfl rfl (dI 3 rfl (fun w => aD rfl) rfl rfl (dI 4 rfl (fun w => aD rfl) rfl rfl (bS (by decide +kernel) (aV ⟨_, res3 rfl rfl rfl, ?_⟩))))))))
 exact ⟨hs, [], n, .other, _, rfl, errv_g (g := 12) rfl (by decide) (by decide), .inr ⟨rfl, by omega, rfl, rfl⟩⟩
 obtain ⟨b, p, rfl, hc⟩ := ha (by omega)
 have hlt := cU l n
 refine aW (dP (dM rfl rfl (lp (bN rfl rfl (fV (c := n + 1) (by omega) (by omega))) rfl (dN rfl rfl (aH (dP (dM rfl rfl (dM rfl rfl (dM rfl rfl (lp (po_ia es_23 rfl rfl (by omega) (by omega)) rfl (lp (aO rfl (bR k_5 (ldb hs.isIn hc n (by omega) (by omega)))) rfl (lp (bY Tryz.underlying5 Tryz.underlying3 rfl (fV (c := eB l n) rfl (by omega))) rfl (lp (bN rfl rfl (fV (c := n + 1 + eB l n) (by omega) (by omega))) rfl ?_)))))))))))))
 refine dN rfl rfl (aH (aF (dP (dM rfl rfl (dM rfl rfl (lp (bC Tryz.underlying23 rfl) rfl (lp (cQ rfl rfl) rfl (aH (bH rfl (fun hc1 => ?_) (fun hc1 => ?_))))))))))
 refine aF (bV hs [1] mixed (fun w hs => dI 0 rfl (fun w => aC rfl) rfl rfl (dJ 1 rfl hs rfl (fun w hs => (aO rfl (bR k_57 (hG.ld hs.isIn (g := 13) rfl)))) rfl (dI 2 rfl (fun w => aD rfl) rfl rfl (dI 3 rfl (fun w => aD rfl) rfl rfl (dI 4 rfl (fun w => aD rfl) rfl rfl (bS (by decide +kernel) (aV ⟨_, res3 rfl rfl rfl, ?_⟩))))))))
 exact ⟨hs, [], n, .other, _, rfl, errv_g (g := 13) rfl (by decide) (by decide), .inr ⟨rfl, by omega, rfl, rfl⟩⟩
 refine aW (dP (dM rfl rfl (dM rfl rfl (dM rfl rfl (lp (po_partR (n + 1) (eB l n) es_23 rfl rfl rfl rfl rfl (by omega)) rfl (lp (po_bytesStrR (hb.part (by omega)) hs.isIn Tryz.underlying23 Tryz.underlying5 Tryz.underlying9 rfl) rfl (dM rfl rfl (dN rfl rfl (dN rfl rfl (dN rfl rfl (aH (aV ⟨_, res3 rfl rfl rfl, ?_⟩))))))))))))
 exact ⟨hs, _, _, .ok, _, rfl, rfl, .inl ⟨rfl, by omega, by omega, rfl, rfl⟩⟩
theorem c_unpackBytes (hG : Gl A V) (hV : V.In w0) (hb : RB V mv l) {fb m c : Nat} {E : TypeId} {cs : List Value} (hcs : cs.length = m) (hown : w0.heap[fb]? = some (.cells cs.toArray E (0, 0))) (hvn : V fb = none)
  (n : Nat) (hn : off = n) (h1 : n ≤ 1152921504606846976) (h2 : l.length ≤ 1152921504606846976) (h3 : m ≤ 1152921504606846976) :
  eC Tryz.prog 193 #[mv, .int .i64 off, .slice (some ⟨fb, 0, none⟩) m c] w0 fun v w' => ∃ (o : Nat) (k : EK) (e : Value) (cs' : List Value), v = .tuple #[.int .i64 o, e] ∧ ErrV A e k ∧
   St ⟨w0, V, V⟩ w' [(fb, .cells cs'.toArray E (0, 0))] ∧ ((k = .ok ∧ rdBytes l n m = some (seg l n m) ∧ cs' = (seg l n m).map eA) ∨ (k = .other ∧ rdBytes l n m = none ∧ cs' = cs)) := by
 subst hn
 obtain ⟨a, cap, rfl, hcap, ha⟩ := hb.form
 have hs := St.start1 hV hown (bU _ _) hvn
 refine aT [_, _, _] Tryz.func193 Tryz.ntmps193 Tryz.results193 rfl rfl (dP (dN rfl rfl (dN rfl rfl (aH (dP (dM rfl rfl (dM rfl rfl (lp (bC Tryz.underlying23 rfl) rfl (lp (bN rfl rfl (fV (c := n + m) (by omega) (by omega))) rfl (dN rfl rfl (aH (aF (dP ?_)))))))))))))
 refine dM rfl rfl (dM rfl rfl (lp (bC Tryz.underlying23 rfl) rfl (lp (cQ rfl rfl) rfl (aH (bH rfl (fun hc0 => ?_) (fun hc0 => ?_))))))
 refine aF (bV hs [1] mixed (fun w hs => dI 0 rfl (fun w => aC rfl) rfl rfl (dJ 1 rfl hs rfl (fun w hs => (aO rfl (bR k_57 (hG.ld hs.isIn (g := 12) rfl)))) rfl (dI 2 rfl (fun w => aD rfl) rfl rfl (dI 3 rfl (fun w => aD rfl) rfl rfl (bS (by decide +kernel) (aV ⟨_, fX rfl rfl, ?_⟩)))))))
 exact ⟨n, .other, _, cs, rfl, errv_g (g := 12) rfl (by decide) (by decide), hs, .inr ⟨rfl, by unfold rdBytes; rw [if_neg (by omega)], rfl⟩⟩
 refine aW (dP (dM rfl rfl (dM rfl rfl (dM rfl rfl (dM rfl rfl (lp (po_partR n m es_23 rfl rfl rfl rfl rfl (by omega)) rfl ?_))))))
 have hsrc := (hb.part (i := n) (m := m) (by omega))
 have hsl : (seg l n m).length = m := seg_len (by omega)
 refine aJ (o_copy (kk := 0) (k := m) (news := (seg l n m).map eA) es_23 hs rfl rfl hsrc.len (by rw [hsl]; exact Nat.min_self m) (by have := (RB.src (P := Tryz.prog) hsrc hs.isIn).fst; rwa [hsl] at this) (dH _) rfl (by omega) rfl rfl (fun w hs => ?_))
 have hcell : (cs.take 0 ++ (seg l n m).map eA ++ cs.drop (0 + m * 1)) = (seg l n m).map eA := by
  rw [List.take_zero, List.nil_append, List.drop_eq_nil_of_le (by omega), List.append_nil]
 rw [hcell] at hs
 refine aH (dP (dM rfl rfl (dN rfl rfl (dN rfl rfl (aH (aV ⟨_, fX rfl rfl, ?_⟩))))))
 exact ⟨_, .ok, _, _, rfl, rfl, hs, .inl ⟨rfl, by unfold rdBytes; rw [if_pos (by omega)], rfl⟩⟩
theorem c_headerUnpack (hG : Gl A V) (hV : V.In w0) (hb : RB V mv l) {bp : Nat} {E : TypeId} {m0 : Value} {z1 z2 z3 z4 z5 z6 : Nat} {tl : List Value}
  (hown : w0.heap[bp]? = some (.cells (m0 :: .int .u16 z1 :: .int .u16 z2 :: .int .u16 z3 :: .int .u16 z4 :: .int .u16 z5 :: .int .u16 z6 :: tl).toArray E (0, 0))) (hvn : V bp = none) (hz3 : z4 < 65536) (hz4 : z5 < 65536) (hz5 : z6 < 65536) (h2 : l.length ≤ 1152921504606846976) :
  eC Tryz.prog 66 #[.pointer (some ⟨bp, 1, none⟩), mv, .int .i64 0] w0 fun v w' => ∃ (o : Nat) (k : EK) (e : Value) (x1 x2 x3 x4 x5 x6 : Nat), v = .tuple #[.int .i64 o, e] ∧ ErrV A e k ∧
   St ⟨w0, V, V⟩ w' [(bp, .cells (m0 :: .int .u16 x1 :: .int .u16 x2 :: .int .u16 x3 :: .int .u16 x4 :: .int .u16 x5 :: .int .u16 x6 :: tl).toArray E (0, 0))] ∧ (x4 < 65536 ∧ x5 < 65536 ∧ x6 < 65536) ∧
   ((k = .ok ∧ 12 ≤ l.length ∧ o = 12 ∧ x1 = w16 l 0 ∧ x2 = w16 l 2 ∧ x3 = w16 l 4 ∧ x4 = w16 l 6 ∧ x5 = w16 l 8 ∧ x6 = w16 l 10) ∨ (k = .other ∧ l.length < 12 ∧ o = 0)) := by
 have hs := St.start1 hV hown (bU _ _) hvn
 refine aT [_, _, _] Tryz.func66 Tryz.ntmps66 Tryz.results66 rfl rfl (dP (dN rfl rfl (dN rfl rfl (aH (dP (dM rfl rfl (dN rfl rfl (aH (dP (dN rfl rfl (aH (aF (dP ?_)))))))))))))
 refine dM rfl rfl (dM rfl rfl (dM rfl rfl (aZ ok_149 rfl rfl (cP hG hs.isIn hb (0) rfl (by omega) h2) rfl (fun v15 w HF => ?_))))
 obtain ⟨hc, x1, o, k, e, rfl, he, hr⟩ := HF
 replace hs := hs.frame hc
 have hxl1 := hr.lt.1
 refine dM rfl rfl (dO rfl rfl rfl (dO rfl rfl rfl (dO rfl rfl rfl (lp (aN rfl) rfl (lp (bD fo_97_0 rfl) rfl (aJ (dQ 0 hs eS rfl rfl rfl rfl rfl rfl rfl (fun w hs => dN rfl rfl (dN rfl rfl (aH (dP (dM rfl rfl (lp (bB he rfl) rfl (aH ?_))))))))))))))
 refine bH rfl (fun hc0 => ?_) (fun hc0 => ?_)
 refine dP (dM rfl rfl (dM rfl rfl (lp (bL rfl (by (simp only [List.all_cons, List.all_nil, he.oneCell]; rfl)) (eI _ _)) rfl (aJ (cR hs rfl rfl rfl (fun b26 w hb26 hbe26 hs => ?_))))))
 replace hs := hs.drop hb26
 refine lp (cG Tryz.underlying139 (fun _ h => by cases h) rfl) rfl (dN rfl rfl (dN rfl rfl (aH (aV ⟨_, fX rfl rfl, ?_⟩))))
 have hbad := hr.badlen hc0
 exact ⟨0, .other, _, x1, z2, z3, z4, z5, z6, rfl, dA, hs, ⟨hz3, hz4, hz5⟩, .inr ⟨rfl, by omega, rfl⟩⟩
 have hk : k = .ok := by simpa using hc0
 subst hk
 obtain ⟨_, rfl, hx1, hl1⟩ := hr.ok
 refine aW (aF (dP (dM rfl rfl (dM rfl rfl (dM rfl rfl (aZ ok_149 rfl rfl (cP hG hs.isIn hb (0 + 2) rfl (by omega) h2) rfl (fun v32 w HF => ?_)))))))
 obtain ⟨hc, x2, o, k, e, rfl, he, hr⟩ := HF
 replace hs := hs.frame hc
 have hxl2 := hr.lt.1
 refine dM rfl rfl (dO rfl rfl rfl (dO rfl rfl rfl (dO rfl rfl rfl (lp (aN rfl) rfl (lp (bD fo_97_1 rfl) rfl (aJ (dQ 0 hs eS rfl rfl rfl rfl rfl rfl rfl (fun w hs => dN rfl rfl (dN rfl rfl (aH (dP (dM rfl rfl (lp (bB he rfl) rfl (aH ?_))))))))))))))
 refine bH rfl (fun hc1 => ?_) (fun hc1 => ?_)
 refine dP (dM rfl rfl (dM rfl rfl (lp (bL rfl (by (simp only [List.all_cons, List.all_nil, he.oneCell]; rfl)) (eI _ _)) rfl (aJ (cR hs rfl rfl rfl (fun b43 w hb43 hbe43 hs => ?_))))))
 replace hs := hs.drop hb43
 refine lp (cG Tryz.underlying139 (fun _ h => by cases h) rfl) rfl (dN rfl rfl (dN rfl rfl (aH (aV ⟨_, fX rfl rfl, ?_⟩))))
 have hbad := hr.badlen hc1
 exact ⟨0, .other, _, x1, x2, z3, z4, z5, z6, rfl, dA, hs, ⟨hz3, hz4, hz5⟩, .inr ⟨rfl, by omega, rfl⟩⟩
 have hk : k = .ok := by simpa using hc1
 subst hk
 obtain ⟨_, rfl, hx2, hl2⟩ := hr.ok
 refine aW (aF (dP (dM rfl rfl (dM rfl rfl (dM rfl rfl (aZ ok_149 rfl rfl (cP hG hs.isIn hb (0 + 2 + 2) rfl (by omega) h2) rfl (fun v49 w HF => ?_)))))))
 obtain ⟨hc, x3, o, k, e, rfl, he, hr⟩ := HF
 replace hs := hs.frame hc
 have hxl3 := hr.lt.1
 refine dM rfl rfl (dO rfl rfl rfl (dO rfl rfl rfl (dO rfl rfl rfl (lp (aN rfl) rfl (lp (bD fo_97_2 rfl) rfl (aJ (dQ 0 hs eS rfl rfl rfl rfl rfl rfl rfl (fun w hs => dN rfl rfl (dN rfl rfl (aH (dP (dM rfl rfl (lp (bB he rfl) rfl (aH ?_))))))))))))))
 refine bH rfl (fun hc2 => ?_) (fun hc2 => ?_)
 refine dP (dM rfl rfl (dM rfl rfl (lp (bL rfl (by (simp only [List.all_cons, List.all_nil, he.oneCell]; rfl)) (eI _ _)) rfl (aJ (cR hs rfl rfl rfl (fun b60 w hb60 hbe60 hs => ?_))))))
 replace hs := hs.drop hb60
 refine lp (cG Tryz.underlying139 (fun _ h => by cases h) rfl) rfl (dN rfl rfl (dN rfl rfl (aH (aV ⟨_, fX rfl rfl, ?_⟩))))
 have hbad := hr.badlen hc2
 exact ⟨0, .other, _, x1, x2, x3, z4, z5, z6, rfl, dA, hs, ⟨hz3, hz4, hz5⟩, .inr ⟨rfl, by omega, rfl⟩⟩
 have hk : k = .ok := by simpa using hc2
 subst hk
 obtain ⟨_, rfl, hx3, hl3⟩ := hr.ok
 refine aW (aF (dP (dM rfl rfl (dM rfl rfl (dM rfl rfl (aZ ok_149 rfl rfl (cP hG hs.isIn hb (0 + 2 + 2 + 2) rfl (by omega) h2) rfl (fun v66 w HF => ?_)))))))
 obtain ⟨hc, x4, o, k, e, rfl, he, hr⟩ := HF
 replace hs := hs.frame hc
 have hxl4 := hr.lt.1
 refine dM rfl rfl (dO rfl rfl rfl (dO rfl rfl rfl (dO rfl rfl rfl (lp (aN rfl) rfl (lp (bD fo_97_3 rfl) rfl (aJ (dQ 0 hs eS rfl rfl rfl rfl rfl rfl rfl (fun w hs => dN rfl rfl (dN rfl rfl (aH (dP (dM rfl rfl (lp (bB he rfl) rfl (aH ?_))))))))))))))
 refine bH rfl (fun hc3 => ?_) (fun hc3 => ?_)
 refine dP (dM rfl rfl (dM rfl rfl (lp (bL rfl (by (simp only [List.all_cons, List.all_nil, he.oneCell]; rfl)) (eI _ _)) rfl (aJ (cR hs rfl rfl rfl (fun b77 w hb77 hbe77 hs => ?_))))))
 replace hs := hs.drop hb77
 refine lp (cG Tryz.underlying139 (fun _ h => by cases h) rfl) rfl (dN rfl rfl (dN rfl rfl (aH (aV ⟨_, fX rfl rfl, ?_⟩))))
 have hbad := hr.badlen hc3
 exact ⟨0, .other, _, x1, x2, x3, x4, z5, z6, rfl, dA, hs, ⟨hxl4, hz4, hz5⟩, .inr ⟨rfl, by omega, rfl⟩⟩
 have hk : k = .ok := by simpa using hc3
 subst hk
 obtain ⟨_, rfl, hx4, hl4⟩ := hr.ok
 refine aW (aF (dP (dM rfl rfl (dM rfl rfl (dM rfl rfl (aZ ok_149 rfl rfl (cP hG hs.isIn hb (0 + 2 + 2 + 2 + 2) rfl (by omega) h2) rfl (fun v83 w HF => ?_)))))))
 obtain ⟨hc, x5, o, k, e, rfl, he, hr⟩ := HF
 replace hs := hs.frame hc
 have hxl5 := hr.lt.1
 refine dM rfl rfl (dO rfl rfl rfl (dO rfl rfl rfl (dO rfl rfl rfl (lp (aN rfl) rfl (lp (bD fo_97_4 rfl) rfl (aJ (dQ 0 hs eS rfl rfl rfl rfl rfl rfl rfl (fun w hs => dN rfl rfl (dN rfl rfl (aH (dP (dM rfl rfl (lp (bB he rfl) rfl (aH ?_))))))))))))))
 refine bH rfl (fun hc4 => ?_) (fun hc4 => ?_)
 refine dP (dM rfl rfl (dM rfl rfl (lp (bL rfl (by (simp only [List.all_cons, List.all_nil, he.oneCell]; rfl)) (eI _ _)) rfl (aJ (cR hs rfl rfl rfl (fun b94 w hb94 hbe94 hs => ?_))))))
 replace hs := hs.drop hb94
 refine lp (cG Tryz.underlying139 (fun _ h => by cases h) rfl) rfl (dN rfl rfl (dN rfl rfl (aH (aV ⟨_, fX rfl rfl, ?_⟩))))
 have hbad := hr.badlen hc4
 exact ⟨0, .other, _, x1, x2, x3, x4, x5, z6, rfl, dA, hs, ⟨hxl4, hxl5, hz5⟩, .inr ⟨rfl, by omega, rfl⟩⟩
 have hk : k = .ok := by simpa using hc4
 subst hk
 obtain ⟨_, rfl, hx5, hl5⟩ := hr.ok
 refine aW (aF (dP (dM rfl rfl (dM rfl rfl (dM rfl rfl (aZ ok_149 rfl rfl (cP hG hs.isIn hb (0 + 2 + 2 + 2 + 2 + 2) rfl (by omega) h2) rfl (fun v100 w HF => ?_)))))))
 obtain ⟨hc, x6, o, k, e, rfl, he, hr⟩ := HF
 replace hs := hs.frame hc
 have hxl6 := hr.lt.1
 refine dM rfl rfl (dO rfl rfl rfl (dO rfl rfl rfl (dO rfl rfl rfl (lp (aN rfl) rfl (lp (bD fo_97_5 rfl) rfl (aJ (dQ 0 hs eS rfl rfl rfl rfl rfl rfl rfl (fun w hs => dN rfl rfl (dN rfl rfl (aH (dP (dM rfl rfl (lp (bB he rfl) rfl (aH ?_))))))))))))))
 refine bH rfl (fun hc5 => ?_) (fun hc5 => ?_)
 refine dP (dM rfl rfl (dM rfl rfl (lp (bL rfl (by (simp only [List.all_cons, List.all_nil, he.oneCell]; rfl)) (eI _ _)) rfl (aJ (cR hs rfl rfl rfl (fun b111 w hb111 hbe111 hs => ?_))))))
 replace hs := hs.drop hb111
 refine lp (cG Tryz.underlying139 (fun _ h => by cases h) rfl) rfl (dN rfl rfl (dN rfl rfl (aH (aV ⟨_, fX rfl rfl, ?_⟩))))
 have hbad := hr.badlen hc5
 exact ⟨0, .other, _, x1, x2, x3, x4, x5, x6, rfl, dA, hs, ⟨hxl4, hxl5, hxl6⟩, .inr ⟨rfl, by omega, rfl⟩⟩
 have hk : k = .ok := by simpa using hc5
 subst hk
 obtain ⟨_, rfl, hx6, hl6⟩ := hr.ok
 refine aW (dP (dM rfl rfl (dN rfl rfl (dN rfl rfl (aH (aV ⟨_, fX rfl rfl, ?_⟩))))))
 exact ⟨12, .ok, _, x1, x2, x3, x4, x5, x6, rfl, rfl, hs, ⟨hxl4, hxl5, hxl6⟩, .inl ⟨rfl, by omega, rfl, hx1, hx2, hx3, hx4, hx5, hx6⟩⟩
end
end Go.Proofs.YtgpfjlfkaoffeaaGreatDoor

/- The parser: the start, and bodies with parameters. What the thin package makes of names and bodies. What the thin package makes of bodies. What the thin package makes of options and parameters. -/
import Derived.Test.YtgpfjlfkaoffeaaGreatDoorR19
import Derived.Laws.Cover3
import Derived.Test.YtgpfjlfkaoffeaaGreatDoorR06
set_option linter.all false
namespace Go.Proofs.YtgpfjlfkaoffeaaGreatDoor
open Go
theorem bit_ne (n i : Nat) : decide (((n &&& 2 ^ i : Nat) : Int) ≠ 0) = n.testBit i := by
 have e : n &&& 2 ^ i = if n.testBit i then 2 ^ i else 0 := by
  apply Nat.eq_of_testBit_eq
  intro j
  rw [Nat.testBit_and, Nat.testBit_two_pow]
  by_cases hij : i = j
  subst hij
  cases h : n.testBit i <;> simp
  simp only [hij, decide_false, Bool.and_false]
  split
  rw [Nat.testBit_two_pow]; simp [hij]
  simp
 by_cases h : n.testBit i = true
 rw [e, if_pos h, h]
 apply decide_eq_true
 have : 0 < 2 ^ i := Nat.two_pow_pos i
 omega
 rw [e, if_neg h, Bool.eq_false_iff.2 h]
 rfl
section
variable {P : Program} {ρ : Env} {w : World}
theorem po_bit {T T' : TypeId} {x : Operand} {n : Nat} (i c : Nat) (hc : c = 2 ^ i) (hx : ev ρ x = some (.int .u16 ((n &&& c : Nat) : Int))) : PO P (.binOp .neq T x (.const (.int .u16 0)) T') ρ w (.bool (n.testBit i)) := by
 subst hc
 have := po_neq (P := P) (w := w) (T := T) (T' := T') (y := .const (.int .u16 0)) hx rfl
 rwa [bit_ne] at this
theorem po_neq_nilslice {T T' e : TypeId} {x : Operand} {a : Option Addr} {l c : Nat} (hT : P.underlying T = some (.slice e)) (hx : ev ρ x = some (.slice a l c)) : PO P (.binOp .neq T x (.const (.slice none 0 0)) T') ρ w (.bool (!a.isNone)) :=
 bin_gen hx (y := .const (.slice none 0 0)) rfl rfl (run_neq_slice_nil w T e a l c hT)
end
theorem shr11 {n : Nat} : (n : Int).fdiv (2 ^ (min (11 : Int).toNat IntKind.u16.bits)) = ((n / 2048 : Nat) : Int) := by
 have : (2 : Int) ^ (min (11 : Int).toNat IntKind.u16.bits) = 2048 := by decide
 rw [this, Int.fdiv_eq_ediv_of_nonneg _ (by decide)]
 omega
theorem and15 (n : Nat) : n &&& 15 = n % 16 := Nat.and_two_pow_sub_one_eq_mod n 4
section
variable {A : Nat → Addr} {V : Vw} {w0 : World} {l : List UInt8} {mv : Value} {bp : Nat} {E : TypeId} {m : PM} {cs : List Value}
set_option maxHeartbeats 2000000 in
theorem c_header (hV : V.In w0) {m0 : Value} {id bits : Nat} {tl : List Value} (hid : bits < 65536) (hown : w0.heap[bp]? = some (.cells (m0 :: .int .u16 id :: .int .u16 bits :: tl).toArray E (0, 0))) (hvn : V bp = none) :
  eC Tryz.prog 67 #[.pointer (some ⟨bp, 1, none⟩)] w0 fun v w' => v = .agg (headC id bits).toArray ∧ St ⟨w0, V, V⟩ w' [(bp, .cells (m0 :: .int .u16 id :: .int .u16 bits :: tl).toArray E (0, 0))] := by
 have hs := St.start1 hV hown (bU _ _) hvn
 have hb16 : bits / 2048 < 65536 := by omega
 refine aT [_] Tryz.func67 Tryz.ntmps67 Tryz.results67 rfl rfl (dP (aJ (aX hs z_50 rfl (fun b2 w hb2 he2 hs => aH (aF (bV hs [3, 7, 13, 19, 25, 31, 37, 43, 49, 55] mixed (fun w hs => dI 0 rfl (fun w => aC rfl) rfl rfl (dI 1 rfl (fun w => aN rfl) rfl rfl (dI 2 rfl (fun w => bD fo_97_0 rfl) rfl rfl (dJ 3 rfl hs rfl (fun w hs => (aO rfl (aQ eS (hs.g 1 rfl) rfl))) rfl (dI 4 rfl (fun w => aC rfl) rfl rfl (dI 5 rfl (fun w => aN rfl) rfl rfl (dI 6 rfl (fun w => bD fo_97_1 rfl) rfl rfl (dJ 7 rfl hs rfl (fun w hs => (aO rfl (aQ eS (hs.g 1 rfl) rfl))) rfl ?_))))))))))))))
 refine dI 8 rfl (fun w => (po_and rfl rfl (u16and (b := 32768) hid (by decide)))) rfl rfl (dI 9 rfl (fun w => (po_bit 15 _ (by decide) rfl)) rfl rfl (dI 10 rfl (fun w => aC rfl) rfl rfl (dI 11 rfl (fun w => aN rfl) rfl rfl (dI 12 rfl (fun w => bD fo_97_1 rfl) rfl rfl (dJ 13 rfl hs rfl (fun w hs => (aO rfl (aQ eS (hs.g 1 rfl) rfl))) rfl (dI 14 rfl (fun w => (po_shr rfl rfl (by decide) shr11)) rfl rfl (dI 15 rfl (fun w => (po_and rfl rfl ((u16and (b := 15) hb16 (by decide)).trans (by rw [and15])))) rfl rfl (dI 16 rfl (fun w => aC rfl) rfl rfl (dI 17 rfl (fun w => aN rfl) rfl rfl (dI 18 rfl (fun w => bD fo_97_1 rfl) rfl rfl (dJ 19 rfl hs rfl (fun w hs => (aO rfl (aQ eS (hs.g 1 rfl) rfl))) rfl (dI 20 rfl (fun w => (po_and rfl rfl (u16and (b := 1024) hid (by decide)))) rfl rfl (dI 21 rfl (fun w => (po_bit 10 _ (by decide) rfl)) rfl rfl ?_)))))))))))))
 refine dI 22 rfl (fun w => aC rfl) rfl rfl (dI 23 rfl (fun w => aN rfl) rfl rfl (dI 24 rfl (fun w => bD fo_97_1 rfl) rfl rfl (dJ 25 rfl hs rfl (fun w hs => (aO rfl (aQ eS (hs.g 1 rfl) rfl))) rfl (dI 26 rfl (fun w => (po_and rfl rfl (u16and (b := 512) hid (by decide)))) rfl rfl (dI 27 rfl (fun w => (po_bit 9 _ (by decide) rfl)) rfl rfl (dI 28 rfl (fun w => aC rfl) rfl rfl (dI 29 rfl (fun w => aN rfl) rfl rfl (dI 30 rfl (fun w => bD fo_97_1 rfl) rfl rfl (dJ 31 rfl hs rfl (fun w hs => (aO rfl (aQ eS (hs.g 1 rfl) rfl))) rfl (dI 32 rfl (fun w => (po_and rfl rfl (u16and (b := 256) hid (by decide)))) rfl rfl (dI 33 rfl (fun w => (po_bit 8 _ (by decide) rfl)) rfl rfl (dI 34 rfl (fun w => aC rfl) rfl rfl (dI 35 rfl (fun w => aN rfl) rfl rfl ?_)))))))))))))
 refine dI 36 rfl (fun w => bD fo_97_1 rfl) rfl rfl (dJ 37 rfl hs rfl (fun w hs => (aO rfl (aQ eS (hs.g 1 rfl) rfl))) rfl (dI 38 rfl (fun w => (po_and rfl rfl (u16and (b := 128) hid (by decide)))) rfl rfl (dI 39 rfl (fun w => (po_bit 7 _ (by decide) rfl)) rfl rfl (dI 40 rfl (fun w => aC rfl) rfl rfl (dI 41 rfl (fun w => aN rfl) rfl rfl (dI 42 rfl (fun w => bD fo_97_1 rfl) rfl rfl (dJ 43 rfl hs rfl (fun w hs => (aO rfl (aQ eS (hs.g 1 rfl) rfl))) rfl (dI 44 rfl (fun w => (po_and rfl rfl (u16and (b := 32) hid (by decide)))) rfl rfl (dI 45 rfl (fun w => (po_bit 5 _ (by decide) rfl)) rfl rfl (dI 46 rfl (fun w => aC rfl) rfl rfl (dI 47 rfl (fun w => aN rfl) rfl rfl (dI 48 rfl (fun w => bD fo_97_1 rfl) rfl rfl (dJ 49 rfl hs rfl (fun w hs => (aO rfl (aQ eS (hs.g 1 rfl) rfl))) rfl ?_)))))))))))))
 refine dI 50 rfl (fun w => (po_and rfl rfl (u16and (b := 16) hid (by decide)))) rfl rfl (dI 51 rfl (fun w => (po_bit 4 _ (by decide) rfl)) rfl rfl (dI 52 rfl (fun w => aC rfl) rfl rfl (dI 53 rfl (fun w => aN rfl) rfl rfl (dI 54 rfl (fun w => bD fo_97_1 rfl) rfl rfl (dJ 55 rfl hs rfl (fun w hs => (aO rfl (aQ eS (hs.g 1 rfl) rfl))) rfl (dI 56 rfl (fun w => (po_and rfl rfl ((u16and (b := 15) hid (by decide)).trans (by rw [and15])))) rfl rfl (dI 57 rfl (fun w => (bL rfl (by rfl) (bu_50_0_1_2_3_4_5_6_7_8_9 _ _ _ _ _ _ _ _ _ _))) rfl rfl (dL 58 rfl (dR 0 hs k_50 rfl rfl rfl (by simp) (by simp) (aG rfl) rfl (fun w hs => ⟨fun h => absurd h (by decide +kernel), bS (by decide +kernel) (aV ⟨_, fW ⟨_, rfl, aP k_50 (hs.g 0 rfl) rfl⟩, ?_⟩)⟩))))))))))
 exact ⟨rfl, hs.drop hb2⟩
theorem c_start (hG : Gl A V) (hV : V.In w0) (hb : RB V mv l) (hown : w0.heap[bp]? = some (.cells cs.toArray E (0, 0))) (hvn : V bp = none) (hp : PR l mv m cs) (hwf : WF l m) (h2l : l.length ≤ 4294967296) :
  eC Tryz.prog 35 #[.pointer (some ⟨bp, 0, none⟩), mv] w0 fun v w' => ∃ (cs' hcs : List Value) (e : Value) (k : EK) (m' : PM), v = .tuple #[.agg hcs.toArray, e] ∧ St ⟨w0, V, V⟩ w' [(bp, .cells cs'.toArray E (0, 0))] ∧
   PR l mv m' cs' ∧ ErrV A e k ∧ hcs.length = 10 ∧ Flat hcs ∧ ((12 ≤ l.length ∧ k = .ok ∧ m' = { sec := 1, at_ := 12 } ∧ hcs = headC (w16 l 0) (w16 l 2)) ∨ (l.length < 12 ∧ k = .other ∧ m' = {})) := by
 have hb0 := hb
 obtain ⟨a, cap, rfl, hcap, ha⟩ := hb0.form
 obtain ⟨m0, x1, x2, x3, x4, x5, x6, rfl, ⟨hm0, hx4, hx5, hx6⟩, hx⟩ := hp
 obtain ⟨a0, l0, c0, hm00, hm0a⟩ : ∃ a0 l0 c0, m0 = .slice a0 l0 c0 ∧ (a0 = none → m.sec = 0) := by
  rcases hm0 with rfl | rfl
  refine ⟨a, _, cap, rfl, fun h => ?_⟩
  subst h
  rcases Nat.eq_zero_or_pos m.sec with h | h
  exact h
  obtain ⟨b, p, h1, _⟩ := ha (by have := hwf.long h; omega)
  cases h1
  refine ⟨none, 0, 0, rfl, fun _ => ?_⟩
  rcases Nat.eq_zero_or_pos m.sec with h | h
  exact h
  have h1 := (hx h).1
  obtain ⟨b, p, h2, _⟩ := ha (by have := hwf.long h; omega)
  rw [h2] at h1
  cases h1
 have hs := St.start1 hV hown (bU _ _) hvn
 refine aT [_, _] Tryz.func35 Tryz.ntmps35 Tryz.results35 rfl rfl (dP (aJ (aX hs z_50 rfl (fun b4 w hb4 he4 hs => dN rfl rfl (aH (dG (fun ρ w => ∃ (q0 : Value) (y1 y2 y3 y4 y5 y6 : Nat), y4 < 65536 ∧ y5 < 65536 ∧ y6 < 65536 ∧ Sub (eH (eH (eH emp 4 (.pointer (some ⟨b4, 0, none⟩))) 1 (.slice a l.length cap)) 0 (.pointer (some ⟨bp, 0, none⟩))) ρ ∧ St ⟨w0, V, V⟩ w [(b4, .cells (([.int .u16 0, .bool false, .int .u16 0, .bool false, .bool false, .bool false, .bool false, .bool false, .bool false, .int .u16 0]) : List Value).toArray 50 (0, 0)), (bp, .cells (parC q0 y1 y2 y3 y4 y5 y6 {}).toArray E (0, 0))]) ?_ ?_))))))
 refine dP (dM rfl rfl (lp (aN rfl) rfl (lp (aR fo_100_0 rfl) rfl (lp (aO rfl (aQ k_23 (hs.g 1 rfl) rfl)) rfl (lp (po_neq_nilslice Tryz.underlying23 (congrArg some hm00)) rfl (aH (bJ rfl (fun hc0 => ?_) (fun hc0 => ?_))))))))
 refine aB (dM rfl rfl (lp (bM (vs := []) (ps := []) rfl bz_100) rfl (lp (aN rfl) rfl (aJ (dR 1 hs k_100 rfl rfl rfl rfl rfl (aG rfl) rfl (fun w hs => aH ?_))))))
 exact ⟨.slice none 0 0, 0, 0, 0, 0, 0, 0, by decide, by decide, by decide, aL rfl (aL rfl (aL rfl (bG _))), hs⟩
 refine aW ?_
 have hme : m = {} := hwf.before (hm0a (by cases a0 <;> first | rfl | cases hc0))
 rw [hme] at hs
 exact ⟨m0, x1, x2, x3, x4, x5, x6, hx4, hx5, hx6, aL rfl (aL rfl (aL rfl (bG _))), hs⟩
 clear hs
 rintro ρ w ⟨q0, y1, y2, y3, y4, y5, y6, hy4, hy5, hy6, hsub, hs⟩
 refine EW.weaken hsub (dP (dM rfl rfl (dM rfl rfl (lp (aN rfl) rfl (lp (aR fo_100_0 rfl) rfl (aJ (dQ 1 hs k_23 rfl rfl rfl rfl rfl rfl rfl (fun w hs => aH (dP (dN rfl rfl (aH (aF (dP (dM rfl rfl ?_))))))))))))))
 refine dM rfl rfl (lp (aN rfl) rfl (lp (aR fo_100_1 rfl) rfl (dM rfl rfl (aZ ok_66 rfl rfl (c_headerUnpack hG hs.isIn hb (hs.g 1 rfl) (hs.off (k := 1) rfl) hy4 hy5 hy6 (by omega)) rfl (fun v25 w HF => ?_)))))
 obtain ⟨o, k, e, z1, z2, z3, z4, z5, z6, rfl, he, hc, hzb, hr⟩ := HF
 replace hs := hs.frame1 (k := 1) rfl rfl hc
 refine dM rfl rfl (dO rfl rfl rfl (dO rfl rfl rfl (lp (aN rfl) rfl (lp (aR fo_100_3 rfl) rfl (aJ (dQ 1 hs cH rfl rfl rfl rfl rfl rfl rfl (fun w hs => dN rfl rfl (aH (dP (dM rfl rfl (lp (bB he rfl) rfl (aH (bH rfl (fun hc1 => ?_) (fun hc1 => ?_))))))))))))))
 refine dP (lp (bM (vs := []) (ps := []) rfl bz_50) rfl (dM rfl rfl (lp (bL rfl (by (simp only [List.all_cons, List.all_nil, he.oneCell]; rfl)) (eI _ _)) rfl (aJ (cR hs rfl rfl rfl (fun b35 w hb35 hbe35 hs => ?_))))))
 replace hs := hs.drop hb35
 refine lp (cG Tryz.underlying139 (fun _ h => by cases h) rfl) rfl (aJ (dR 0 hs k_50 rfl rfl rfl (by simp) (by simp) (aG (by decide +kernel)) rfl (fun w hs => dN rfl rfl (aH (aV ⟨_, fX ⟨_, rfl, aP k_50 (hs.g 0 rfl) rfl⟩ rfl, ?_⟩)))))
 obtain ⟨hlt, rfl⟩ : l.length < 12 ∧ o = 0 := by
  rcases hr with ⟨h, _⟩ | ⟨_, h⟩
  exact absurd h hc1
  exact h
 exact ⟨_, _, _, .other, {}, rfl, hs.drop hb4, ⟨_, z1, z2, z3, z4, z5, z6, rfl, ⟨.inl rfl, hzb⟩, fun h => absurd h (by decide)⟩, dA, rfl, aG rfl, .inr ⟨hlt, rfl, rfl⟩⟩
 have hk : k = .ok := by simpa using hc1
 subst hk
 obtain ⟨hge, rfl, rfl, rfl, rfl, rfl, rfl, rfl⟩ : 12 ≤ l.length ∧ o = 12 ∧ z1 = w16 l 0 ∧ z2 = w16 l 2 ∧ z3 = w16 l 4 ∧ z4 = w16 l 6 ∧ z5 = w16 l 8 ∧ z6 = w16 l 10 := by
  rcases hr with ⟨_, h⟩ | ⟨h, _⟩
  exact h
  cases h
 refine aW (dP (dM rfl rfl (lp (aN rfl) rfl (lp (aR fo_100_2 rfl) rfl (aJ (dQ 1 hs k_98 rfl rfl rfl rfl rfl rfl rfl (fun w hs => aH (dP (dM rfl rfl (lp (aN rfl) rfl (lp (aR fo_100_1 rfl) rfl (aZ ok_67 rfl rfl (c_header hs.isIn (w16_lt l 2) (hs.g 1 rfl) (hs.off (k := 1) rfl)) rfl (fun v43 w HF => ?_)))))))))))))
 obtain ⟨rfl, hc⟩ := HF
 replace hs := hs.frame1 (k := 1) rfl rfl hc
 refine aJ (dR 0 hs k_50 rfl rfl rfl rfl rfl (flat_headC _ _) rfl (fun w hs => dN rfl rfl (aH (aV ⟨_, fX ⟨_, rfl, aP k_50 (hs.g 0 rfl) rfl⟩ rfl, ?_⟩))))
 exact ⟨_, _, _, .ok, { sec := 1, at_ := 12 }, rfl, hs.drop hb4, PR.mk rfl, rfl, rfl, flat_headC _ _, .inl ⟨hge, rfl, rfl, rfl⟩⟩
end
end Go.Proofs.YtgpfjlfkaoffeaaGreatDoor
namespace Go.Proofs.YtgpfjlfkaoffeaaGreatDoor
open Go
section
variable {V : Vw} {w0 : World}
theorem c_textOf (hV : V.In w0) (out : List UInt8) (ho : out.length ≤ 254) :
  eC Tryz.prog 113 #[.agg (nmC out out.length).toArray] w0 fun v w' => v = fR out ∧ St ⟨w0, V, V⟩ w' [] := by
 have hs := St.start hV
 have hnl : (out.map eA ++ rep (255 - out.length) (.int .u8 0)).length = 255 := by simp; omega
 refine aT [_] Tryz.func113 Tryz.ntmps113 Tryz.results113 rfl rfl (dP (aJ (cR hs rfl rfl rfl (fun b1 w hb1 hbe1 hs => dN rfl rfl (aH (dP (lp (aR fo_86_0 rfl) rfl (lp (aR fo_86_1 rfl) rfl (lp (aO rfl (cT k_5 (hs.g 0 rfl) hnl (i := 0) rfl rfl)) rfl (lp (po_slice_arrH out.length ar_84 (by decide) rfl rfl rfl (by omega)) rfl ?_))))))))))
 refine lp (po_bytesStr Tryz.underlying23 Tryz.underlying5 Tryz.underlying9 rfl (fun i u hi => by
  rw [cell_list (hs.g 0 rfl), Nat.zero_add]
  have hlt : i < out.length := by
   rcases Nat.lt_or_ge i out.length with h | h
   exact h
   simp [List.getElem?_eq_none h] at hi
  unfold nmC
  rw [List.append_assoc, List.getElem?_append_left (by simpa using hlt)]
  simp [hi, eA])) rfl ?_
 refine dN rfl rfl (aH (aV ⟨_, fW rfl, ?_⟩))
 exact ⟨rfl, hs.drop hb1⟩
end
end Go.Proofs.YtgpfjlfkaoffeaaGreatDoor
namespace Go.Proofs.YtgpfjlfkaoffeaaGreatDoor
open Go
section
variable {V : Vw} {w0 : World} {t : Nat} {r : fY} {cs : List Value}
theorem c_fromNS (hV : V.In w0) (hB : fL V 2 t r cs) (hsm : Small r) :
  eC Tryz.prog 90 #[.agg cs.toArray] w0 fun v w' => ∃ (V' : Vw) (rc : List Value), v = .agg rc.toArray ∧ St ⟨w0, V, V'⟩ w' [] ∧ RRec V' (only 2 t r) rc := by
 obtain ⟨rfl, hn⟩ := hB
 have hnl := cM (out := r.host) (n := r.host.length) (by omega)
 have hs := St.start hV
 refine aT [_] Tryz.func90 Tryz.ntmps90 Tryz.results90 rfl rfl (dP (aJ (cR hs rfl rfl rfl (fun b1 w hb1 hbe1 hs => aJ (aX hs z_30 rfl (fun b2 w hb2 he2 hs => aH (dP (lp (aR fo_163_0 rfl) rfl (lp (aO rfl (aP k_86 (hs.g 1 rfl) hnl)) rfl (aZ ok_113 rfl rfl (c_textOf hs.isIn r.host hn) rfl (fun v5 w HF => ?_)))))))))))
 obtain ⟨rfl, hc⟩ := HF
 replace hs := hs.frame hc
 refine lp (bL rfl (by rfl) (bu_30_5_7 _ _)) rfl (aJ (dR 0 hs eJ rfl rfl rfl (by simp) (by simp) (aG rfl) rfl (fun w hs => aH (aV ⟨_, fW ⟨_, rfl, aP eJ (hs.g 0 rfl) rfl⟩, ?_⟩))))
 exact ⟨V, _, rfl, (hs.drop hb2).drop hb1, _, _, _, rfl, RB.nil V, fF.nil V, eV.nil V⟩
theorem c_fromCNAME (hV : V.In w0) (hB : fL V 3 t r cs) (hsm : Small r) :
  eC Tryz.prog 92 #[.agg cs.toArray] w0 fun v w' => ∃ (V' : Vw) (rc : List Value), v = .agg rc.toArray ∧ St ⟨w0, V, V'⟩ w' [] ∧ RRec V' (only 3 t r) rc := by
 obtain ⟨rfl, hn⟩ := hB
 have hnl := cM (out := r.host) (n := r.host.length) (by omega)
 have hs := St.start hV
 refine aT [_] Tryz.func92 Tryz.ntmps92 Tryz.results92 rfl rfl (dP (aJ (cR hs rfl rfl rfl (fun b1 w hb1 hbe1 hs => aJ (aX hs z_30 rfl (fun b2 w hb2 he2 hs => aH (dP (lp (aR fo_168_0 rfl) rfl (lp (aO rfl (aP k_86 (hs.g 1 rfl) hnl)) rfl (aZ ok_113 rfl rfl (c_textOf hs.isIn r.host hn) rfl (fun v5 w HF => ?_)))))))))))
 obtain ⟨rfl, hc⟩ := HF
 replace hs := hs.frame hc
 refine lp (bL rfl (by rfl) (bu_30_5_7 _ _)) rfl (aJ (dR 0 hs eJ rfl rfl rfl (by simp) (by simp) (aG rfl) rfl (fun w hs => aH (aV ⟨_, fW ⟨_, rfl, aP eJ (hs.g 0 rfl) rfl⟩, ?_⟩))))
 exact ⟨V, _, rfl, (hs.drop hb2).drop hb1, _, _, _, rfl, RB.nil V, fF.nil V, eV.nil V⟩
theorem c_fromPTR (hV : V.In w0) (hB : fL V 5 t r cs) (hsm : Small r) :
  eC Tryz.prog 96 #[.agg cs.toArray] w0 fun v w' => ∃ (V' : Vw) (rc : List Value), v = .agg rc.toArray ∧ St ⟨w0, V, V'⟩ w' [] ∧ RRec V' (only 5 t r) rc := by
 obtain ⟨rfl, hn⟩ := hB
 have hnl := cM (out := r.host) (n := r.host.length) (by omega)
 have hs := St.start hV
 refine aT [_] Tryz.func96 Tryz.ntmps96 Tryz.results96 rfl rfl (dP (aJ (cR hs rfl rfl rfl (fun b1 w hb1 hbe1 hs => aJ (aX hs z_30 rfl (fun b2 w hb2 he2 hs => aH (dP (lp (aR fo_178_0 rfl) rfl (lp (aO rfl (aP k_86 (hs.g 1 rfl) hnl)) rfl (aZ ok_113 rfl rfl (c_textOf hs.isIn r.host hn) rfl (fun v5 w HF => ?_)))))))))))
 obtain ⟨rfl, hc⟩ := HF
 replace hs := hs.frame hc
 refine lp (bL rfl (by rfl) (bu_30_5_7 _ _)) rfl (aJ (dR 0 hs eJ rfl rfl rfl (by simp) (by simp) (aG rfl) rfl (fun w hs => aH (aV ⟨_, fW ⟨_, rfl, aP eJ (hs.g 0 rfl) rfl⟩, ?_⟩))))
 exact ⟨V, _, rfl, (hs.drop hb2).drop hb1, _, _, _, rfl, RB.nil V, fF.nil V, eV.nil V⟩
theorem c_fromMX (hV : V.In w0) (hB : fL V 6 t r cs) (hsm : Small r) :
  eC Tryz.prog 98 #[.agg cs.toArray] w0 fun v w' => ∃ (V' : Vw) (rc : List Value), v = .agg rc.toArray ∧ St ⟨w0, V, V'⟩ w' [] ∧ RRec V' (only 6 t r) rc := by
 obtain ⟨rfl, hn, hx1⟩ := hB
 have hnl := cM (out := r.host) (n := r.host.length) (by omega)
 have hs := St.start hV
 refine aT [_] Tryz.func98 Tryz.ntmps98 Tryz.results98 rfl rfl (dP (aJ (cR hs rfl rfl rfl (fun b1 w hb1 hbe1 hs => aJ (aX hs z_30 rfl (fun b2 w hb2 he2 hs => aH (aF (bV hs [1, 4] mixed (fun w hs => dI 0 rfl (fun w => aR fo_183_0 rfl) rfl rfl (dJ 1 rfl hs rfl (fun w hs => (aO rfl (aQ eS (hs.g 1 rfl) rfl))) rfl (dI 2 rfl (fun w => (bY Tryz.underlying22 Tryz.underlying27 rfl (u32c (c := r.n1) rfl (by omega)))) rfl rfl (dI 3 rfl (fun w => aR fo_183_1 rfl) rfl rfl (dJ 4 rfl hs rfl (fun w hs => (aO rfl (ld_tl (pre := [.int .u16 r.n1]) k_86 (hs.g 1 rfl) rfl hnl))) rfl (dL 5 rfl (cF (cD rfl rfl ok_113 (c_textOf hs.isIn r.host hn)) rfl (fun v8 w HF => ?_))))))))))))))))
 obtain ⟨rfl, hc⟩ := HF
 replace hs := hs.frame hc
 refine ⟨fun _ => hs, dI 6 rfl (fun w => (bL rfl (by rfl) (bu_30_5_9_7 _ _ _))) rfl rfl (dL 7 rfl (dR 0 hs eJ rfl rfl rfl (by simp) (by simp) (aG rfl) rfl (fun w hs => ⟨fun h => absurd h (by decide +kernel), bS (by decide +kernel) (aV ⟨_, fW ⟨_, rfl, aP eJ (hs.g 0 rfl) rfl⟩, ?_⟩)⟩)))⟩
 exact ⟨V, _, rfl, (hs.drop hb2).drop hb1, _, _, _, rfl, RB.nil V, fF.nil V, eV.nil V⟩
theorem c_fromSRV (hV : V.In w0) (hB : fL V 9 t r cs) (hsm : Small r) :
  eC Tryz.prog 104 #[.agg cs.toArray] w0 fun v w' => ∃ (V' : Vw) (rc : List Value), v = .agg rc.toArray ∧ St ⟨w0, V, V'⟩ w' [] ∧ RRec V' (only 9 t r) rc := by
 obtain ⟨rfl, hn, hx1, hx2, hx3⟩ := hB
 have hnl := cM (out := r.host) (n := r.host.length) (by omega)
 have hs := St.start hV
 refine aT [_] Tryz.func104 Tryz.ntmps104 Tryz.results104 rfl rfl (dP (aJ (cR hs rfl rfl rfl (fun b1 w hb1 hbe1 hs => aJ (aX hs z_30 rfl (fun b2 w hb2 he2 hs => aH (aF (bV hs [1, 4, 7, 10] mixed (fun w hs => dI 0 rfl (fun w => aR fo_199_0 rfl) rfl rfl (dJ 1 rfl hs rfl (fun w hs => (aO rfl (aQ eS (hs.g 1 rfl) rfl))) rfl (dI 2 rfl (fun w => (bY Tryz.underlying22 Tryz.underlying27 rfl (u32c (c := r.n1) rfl (by omega)))) rfl rfl (dI 3 rfl (fun w => aR fo_199_1 rfl) rfl rfl (dJ 4 rfl hs rfl (fun w hs => (aO rfl (aQ eS (hs.g 1 rfl) rfl))) rfl (dI 5 rfl (fun w => (bY Tryz.underlying22 Tryz.underlying27 rfl (u32c (c := r.n2) rfl (by omega)))) rfl rfl (dI 6 rfl (fun w => aR fo_199_2 rfl) rfl rfl ?_)))))))))))))))
 refine dJ 7 rfl hs rfl (fun w hs => (aO rfl (aQ eS (hs.g 1 rfl) rfl))) rfl (dI 8 rfl (fun w => (bY Tryz.underlying22 Tryz.underlying27 rfl (u32c (c := r.n3) rfl (by omega)))) rfl rfl (dI 9 rfl (fun w => aR fo_199_3 rfl) rfl rfl (dJ 10 rfl hs rfl (fun w hs => (aO rfl (ld_tl (pre := [.int .u16 r.n1, .int .u16 r.n2, .int .u16 r.n3]) k_86 (hs.g 1 rfl) rfl hnl))) rfl (dL 11 rfl (cF (cD rfl rfl ok_113 (c_textOf hs.isIn r.host hn)) rfl (fun v14 w HF => ?_))))))
 obtain ⟨rfl, hc⟩ := HF
 replace hs := hs.frame hc
 refine ⟨fun _ => hs, dI 12 rfl (fun w => (bL rfl (by rfl) (bu_30_5_9_10_11_7 _ _ _ _ _))) rfl rfl (dL 13 rfl (dR 0 hs eJ rfl rfl rfl (by simp) (by simp) (aG rfl) rfl (fun w hs => ⟨fun h => absurd h (by decide +kernel), bS (by decide +kernel) (aV ⟨_, fW ⟨_, rfl, aP eJ (hs.g 0 rfl) rfl⟩, ?_⟩)⟩)))⟩
 exact ⟨V, _, rfl, (hs.drop hb2).drop hb1, _, _, _, rfl, RB.nil V, fF.nil V, eV.nil V⟩
theorem c_fromSOA (hV : V.In w0) (hB : fL V 4 t r cs) (hsm : Small r) :
  eC Tryz.prog 94 #[.agg cs.toArray] w0 fun v w' => ∃ (V' : Vw) (rc : List Value), v = .agg rc.toArray ∧ St ⟨w0, V, V'⟩ w' [] ∧ RRec V' (only 4 t r) rc := by
 obtain ⟨rfl, hn, hn2⟩ := hB
 have hnl := cM (out := r.host) (n := r.host.length) (by omega)
 have hnl2 := cM (out := r.box) (n := r.box.length) (by omega)
 have hll : (nmC r.host r.host.length ++ nmC r.box r.box.length).length = 512 := by simp [hnl, hnl2]
 have hs := St.start hV
 refine aT [_] Tryz.func94 Tryz.ntmps94 Tryz.results94 rfl rfl (dP (aJ (cR hs rfl rfl rfl (fun b1 w hb1 hbe1 hs => aJ (aX hs z_30 rfl (fun b2 w hb2 he2 hs => aH (aF (bV hs [1, 4, 7, 9, 11, 13, 15] mixed (fun w hs => dI 0 rfl (fun w => aR fo_173_0 rfl) rfl rfl (dJ 1 rfl hs rfl (fun w hs => (aO rfl (ld_hd (a := nmC r.host r.host.length) k_86 (by have := hs.g 1 rfl; rw [List.append_assoc] at this; exact this) hnl))) rfl (dI 3 rfl (fun w => aR fo_173_1 rfl) rfl rfl (dJ 4 rfl hs rfl (fun w hs => (aO rfl (ld_part (pre := nmC r.host r.host.length) (a := nmC r.box r.box.length) k_86 (by have := hs.g 1 rfl; rw [List.append_assoc] at this; exact this) hnl hnl2))) rfl (dI 6 rfl (fun w => aR fo_173_2 rfl) rfl rfl (dJ 7 rfl hs rfl (fun w hs => (aO rfl (cT cB (hs.g 1 rfl) hll (i := 0) rfl rfl))) rfl (dI 8 rfl (fun w => aR fo_173_3 rfl) rfl rfl ?_)))))))))))))))
 refine dJ 9 rfl hs rfl (fun w hs => (aO rfl (cT cB (hs.g 1 rfl) hll (i := 1) rfl rfl))) rfl (dI 10 rfl (fun w => aR fo_173_4 rfl) rfl rfl (dJ 11 rfl hs rfl (fun w hs => (aO rfl (cT cB (hs.g 1 rfl) hll (i := 2) rfl rfl))) rfl (dI 12 rfl (fun w => aR fo_173_5 rfl) rfl rfl (dJ 13 rfl hs rfl (fun w hs => (aO rfl (cT cB (hs.g 1 rfl) hll (i := 3) rfl rfl))) rfl (dI 14 rfl (fun w => aR fo_173_6 rfl) rfl rfl (dJ 15 rfl hs rfl (fun w hs => (aO rfl (cT cB (hs.g 1 rfl) hll (i := 4) rfl rfl))) rfl (dL 2 rfl (cF (cD rfl rfl ok_113 (c_textOf hs.isIn r.host hn)) rfl (fun v5 w HF => ?_)))))))))
 obtain ⟨rfl, hc⟩ := HF
 replace hs := hs.frame hc
 refine ⟨fun _ => hs, dL 5 rfl (cF (cD rfl rfl ok_113 (c_textOf hs.isIn r.box hn2)) rfl (fun v8 w HF => ?_))⟩
 obtain ⟨rfl, hc⟩ := HF
 replace hs := hs.frame hc
 refine ⟨fun _ => hs, dI 16 rfl (fun w => (bL rfl (by rfl) (bu_30_5_7_8_9_10_11_12_13 _ _ _ _ _ _ _ _))) rfl rfl (dL 17 rfl (dR 0 hs eJ rfl rfl rfl (by simp) (by simp) (aG rfl) rfl (fun w hs => ⟨fun h => absurd h (by decide +kernel), bS (by decide +kernel) (aV ⟨_, fW ⟨_, rfl, aP eJ (hs.g 0 rfl) rfl⟩, ?_⟩)⟩)))⟩
 exact ⟨V, _, rfl, (hs.drop hb2).drop hb1, _, _, _, rfl, RB.nil V, fF.nil V, eV.nil V⟩
theorem c_fromA (hV : V.In w0) (hB : fL V 1 t r cs) (hsm : Small r) :
  eC Tryz.prog 88 #[.agg cs.toArray] w0 fun v w' => ∃ (V' : Vw) (rc : List Value), v = .agg rc.toArray ∧ St ⟨w0, V, V'⟩ w' [] ∧ RRec V' (only 1 t r) rc := by
 obtain ⟨rfl, hn⟩ := hB
 have hs := St.start hV
 refine aT [_] Tryz.func88 Tryz.ntmps88 Tryz.results88 rfl rfl (dP (aJ (cR hs rfl rfl rfl (fun b1 w hb1 hbe1 hs => aJ (aX hs z_30 rfl (fun b2 w hb2 he2 hs => aH (dP (aJ (fP es_23 hs rfl (fun b3 w hb3 he3 hs => lp (aR fo_157_0 rfl) rfl (lp (po_slice_arrA ar_155 (by decide) rfl) rfl (aJ (fA (k := 4) (news := r.data.map eA) el_23 (.inr ⟨_, Tryz.underlying23⟩) (Sl.empty hs hb3) rfl rfl (src_own (k := 2) hs rfl (by simp [hn])) (dH _) (by omega) (by omega) rfl (fun v6 w hs => ?_))))))))))))))
 obtain ⟨V', hle, hsv, hs⟩ := hs.give
 have hRB : RB V' v6 r.data := by unfold RB; rw [hn]; simpa using hsv
 refine lp (bL rfl (by simp only [List.all_cons, List.all_nil, hRB.oneCell]; rfl) (bu_30_5_6 _ _)) rfl (aJ (dR 0 hs eJ rfl rfl rfl rfl rfl (aG (by simp only [List.all_cons, List.all_nil, hRB.oneCell]; rfl)) rfl (fun w hs => aH (aV ⟨_, fW ⟨_, rfl, aP eJ (hs.g 0 rfl) rfl⟩, ?_⟩))))
 exact ⟨V', _, rfl, (hs.drop hb2).drop hb1, _, _, _, rfl, hRB, fF.nil V', eV.nil V'⟩
theorem c_fromAAAA (hV : V.In w0) (hB : fL V 8 t r cs) (hsm : Small r) :
  eC Tryz.prog 102 #[.agg cs.toArray] w0 fun v w' => ∃ (V' : Vw) (rc : List Value), v = .agg rc.toArray ∧ St ⟨w0, V, V'⟩ w' [] ∧ RRec V' (only 8 t r) rc := by
 obtain ⟨rfl, hn⟩ := hB
 have hs := St.start hV
 refine aT [_] Tryz.func102 Tryz.ntmps102 Tryz.results102 rfl rfl (dP (aJ (cR hs rfl rfl rfl (fun b1 w hb1 hbe1 hs => aJ (aX hs z_30 rfl (fun b2 w hb2 he2 hs => aH (dP (aJ (fP es_23 hs rfl (fun b3 w hb3 he3 hs => lp (aR fo_194_0 rfl) rfl (lp (po_slice_arrA ar_192 (by decide) rfl) rfl (aJ (fA (k := 16) (news := r.data.map eA) el_23 (.inr ⟨_, Tryz.underlying23⟩) (Sl.empty hs hb3) rfl rfl (src_own (k := 2) hs rfl (by simp [hn])) (dH _) (by omega) (by omega) rfl (fun v6 w hs => ?_))))))))))))))
 obtain ⟨V', hle, hsv, hs⟩ := hs.give
 have hRB : RB V' v6 r.data := by unfold RB; rw [hn]; simpa using hsv
 refine lp (bL rfl (by simp only [List.all_cons, List.all_nil, hRB.oneCell]; rfl) (bu_30_5_6 _ _)) rfl (aJ (dR 0 hs eJ rfl rfl rfl rfl rfl (aG (by simp only [List.all_cons, List.all_nil, hRB.oneCell]; rfl)) rfl (fun w hs => aH (aV ⟨_, fW ⟨_, rfl, aP eJ (hs.g 0 rfl) rfl⟩, ?_⟩))))
 exact ⟨V', _, rfl, (hs.drop hb2).drop hb1, _, _, _, rfl, hRB, fF.nil V', eV.nil V'⟩
theorem c_fromUnknown (hV : V.In w0) (hB : fL V 13 t r cs) (hsm : Small r) :
  eC Tryz.prog 112 #[.agg cs.toArray] w0 fun v w' => ∃ (V' : Vw) (rc : List Value), v = .agg rc.toArray ∧ St ⟨w0, V, V'⟩ w' [] ∧ RRec V' (only 13 t r) rc := by
 obtain ⟨v, rfl, hn⟩ := hB
 have hs := St.start hV
 have hv1 := hn.oneCell
 obtain ⟨hs1, hs2, hs3, hs4⟩ := hsm
 refine aT [_] Tryz.func112 Tryz.ntmps112 Tryz.results112 rfl rfl (dP (aJ (cR hs rfl rfl rfl (fun b1 w hb1 hbe1 hs => aJ (aX hs z_30 rfl (fun b2 w hb2 he2 hs => aH (aF (bV hs [1, 4] mixed (fun w hs => dI 0 rfl (fun w => aR fo_221_0 rfl) rfl rfl (dJ 1 rfl hs rfl (fun w hs => (aO rfl (aQ k_87 (hs.g 1 rfl) rfl))) rfl (dI 3 rfl (fun w => aR fo_221_1 rfl) rfl rfl (dJ 4 rfl hs rfl (fun w hs => (aO rfl (aQ k_23 (hs.g 1 rfl) rfl))) rfl (dL 2 rfl (fP es_23 hs rfl (fun b5 w hb5 he5 hs => ⟨fun _ => hs.drop hb5, dL 5 rfl (fA (k := r.data.length) (news := r.data.map eA) el_23 (.inr ⟨_, Tryz.underlying23⟩) (Sl.empty hs hb5) rfl rfl (hn.src hs.isIn) (dH _) (by omega) (by omega) rfl (fun v8 w hs => ?_))⟩)))))))))))))))
 refine ⟨fun _ => hs.st, ?_⟩
 obtain ⟨V', hle, hsv, hs⟩ := hs.give
 have hRB : RB V' v8 r.data := by unfold RB; simpa using hsv
 refine dI 6 rfl (fun w => (bL rfl (by simp only [List.all_cons, List.all_nil, hRB.oneCell]; rfl) (bu_30_5_1_6 _ _ _))) rfl rfl (dL 7 rfl (dR 0 hs eJ rfl rfl rfl rfl rfl (aG (by simp only [List.all_cons, List.all_nil, hRB.oneCell]; rfl)) rfl (fun w hs => ⟨fun h => absurd h (by decide +kernel), bS (by decide +kernel) (aV ⟨_, fW ⟨_, rfl, aP eJ (hs.g 0 rfl) rfl⟩, ?_⟩)⟩)))
 exact ⟨V', _, rfl, (hs.drop hb2).drop hb1, _, _, _, rfl, hRB, fF.nil V', eV.nil V'⟩
theorem c_fromTXT (hV : V.In w0) (hB : fL V 7 t r cs) (hsm : Small r) :
  eC Tryz.prog 100 #[.agg cs.toArray] w0 fun v w' => ∃ (V' : Vw) (rc : List Value), v = .agg rc.toArray ∧ St ⟨w0, V, V'⟩ w' [] ∧ RRec V' (only 7 t r) rc := by
 obtain ⟨v, rfl, hn⟩ := hB
 have hs := St.start hV
 have hv1 := hn.oneCell
 obtain ⟨hs1, hs2, hs3, hs4⟩ := hsm
 refine aT [_] Tryz.func100 Tryz.ntmps100 Tryz.results100 rfl rfl (dP (aJ (cR hs rfl rfl rfl (fun b1 w hb1 hbe1 hs => aJ (aX hs z_30 rfl (fun b2 w hb2 he2 hs => aH (dP (aJ (fP es_28 hs rfl (fun b3 w hb3 he3 hs => lp (aR fo_188_0 rfl) rfl (lp (aO rfl (aQ k_28 (hs.g 2 rfl) rfl)) rfl (aJ (fA (k := r.texts.length) (news := r.texts.map fR) el_28 (.inr ⟨_, Tryz.underlying28⟩) (Sl.empty hs hb3) rfl rfl (SlV.src hn hs.isIn) (fun u hu => by obtain ⟨x, _, rfl⟩ := List.mem_map.1 hu; rfl) (by omega) (by omega) rfl (fun v6 w hs => ?_))))))))))))))
 obtain ⟨V', hle, hsv, hs⟩ := hs.give
 have hRT : fF V' v6 r.texts := by unfold fF; simpa using hsv
 refine lp (bL rfl (by simp only [List.all_cons, List.all_nil, hRT.oneCell]; rfl) (bu_30_5_14 _ _)) rfl (aJ (dR 0 hs eJ rfl rfl rfl rfl rfl (aG (by simp only [List.all_cons, List.all_nil, hRT.oneCell]; rfl)) rfl (fun w hs => aH (aV ⟨_, fW ⟨_, rfl, aP eJ (hs.g 0 rfl) rfl⟩, ?_⟩))))
 exact ⟨V', _, rfl, (hs.drop hb2).drop hb1, _, _, _, rfl, RB.nil V', hRT, eV.nil V'⟩
end
end Go.Proofs.YtgpfjlfkaoffeaaGreatDoor
namespace Go.Proofs.YtgpfjlfkaoffeaaGreatDoor
open Go
section
variable {V : Vw} {w0 : World} {t : Nat} {r : fY} {cs : List Value}
set_option maxHeartbeats 1000000 in
theorem c_pairsOf (hV : V.In w0) {pv : Value} {ps : List fU} (hP : eV V pv ps) (hn : ps.length ≤ 65536) (hd : ∀ p ∈ ps, p.data.length ≤ 65536) :
  eC Tryz.prog 171 #[pv] w0 fun v w' => ∃ V' : Vw, St ⟨w0, V, V'⟩ w' [] ∧ eV V' v ps := by
 obtain ⟨xs, hS, hR⟩ := hP
 obtain ⟨a, cap, rfl, hcap, ha⟩ := hS.form
 have hs := St.start hV
 refine aT [_] Tryz.func171 Tryz.ntmps171 Tryz.results171 rfl rfl (dP (dN rfl rfl (aH (dP (aJ (fP es_26 hs rfl (fun b6 w hb6 he6 hs => ?_)))))))
 have hsl : Sl 25 2 ⟨w0, V, V⟩ w [] (.slice (some ⟨b6, 0, none⟩) 0 0) 0 [] := Sl.empty hs hb6
 refine dN rfl rfl (aH (aF (dP (dM rfl rfl (lp (bC Tryz.underlying209 rfl) rfl (dM rfl rfl (aH (bQ (dC (fun g : Nat × List Value × Value × Vw => eH (eH (eH (eH emp 9 (.int .i64 g.1)) 8 (.int .i64 ps.length)) 7 (.slice a ps.length cap)) 3 g.2.2.1) (fun g w' => Sl 25 2 ⟨w0, V, g.2.2.2⟩ w' [] g.2.2.1 g.1 g.2.1 ∧ Rows 2 (RPair g.2.2.2) (ps.take g.1) g.2.1 ∧ g.1 ≤ ps.length) (fun g => ps.length - g.1) (0, [], .slice (some ⟨b6, 0, none⟩) 0 0, V) (aL rfl (aL rfl (aL rfl (aL rfl (bG _))))) ⟨hsl, rfl, Nat.zero_le _⟩ ?_)))))))))
 clear hsl hs
 rintro ⟨j, ys, sv, Vc⟩ w ⟨hsl, hrows, hj⟩
 simp only at hsl hrows hj ⊢
 have hle := hsl.st.view
 refine dP (lp (cY rfl rfl) rfl (aH (aF (bH rfl (fun hc0 => ?_) (fun hc0 => ?_)))))
 obtain ⟨b, p, rfl, hc⟩ := ha (by omega)
 have hjl : j < ps.length := by omega
 obtain ⟨c, ⟨vd, rfl, hRB⟩, hcl, hct⟩ := hR.at (List.getElem?_eq_getElem hjl)
 have hdl := hd _ (List.getElem_mem hjl)
 obtain ⟨X, hX, hs⟩ := hsl.open
 refine aW (aF (bQ (dP (lp (eZ j (p + j * 2) es_209 rfl rfl rfl hjl rfl) rfl ?_))))
 refine lp (aO rfl (ld_cells (l := [.int .u16 ps[j].key, vd]) k_345 rfl (fun i u hu => by
  rw [Nat.add_assoc]
  exact Vw.cell_in hs.isIn (Vw.cell_le hle (hc _ _ (fN hct hu)))))) rfl ?_
 refine aJ (aX hs z_345 rfl (fun b5 w hb5 he5 hs => aJ (dR 0 hs k_345 rfl rfl rfl rfl rfl (bX rfl (bX hRB.oneCell eQ)) rfl (fun w hs => aH (e_draw (fun w2 => w2.heap[b5]? = some (.cells [Value.int .u16 ps[j].key, vd].toArray 345 (0, 0))) [2, 5] mixed (fun w hw => ?_))))))
 replace hs := hw.st hs
 refine dI 0 rfl (fun w => aC rfl) rfl rfl (dI 1 rfl (fun w => aR fo_345_0 rfl) rfl rfl (dJ 2 rfl (hs.g 0 rfl) rfl (fun w hf => (aO rfl (aQ k_343 hf rfl))) rfl (dI 4 rfl (fun w => aR fo_345_1 rfl) rfl rfl (dJ 5 rfl (hs.g 0 rfl) rfl (fun w hf => (aO rfl (aQ k_23 hf rfl))) rfl (dL 3 rfl (fP es_23 hs rfl (fun b16 w hb16 he16 hs => ⟨fun _ => hs.g 1 rfl, dL 6 rfl (fA (k := ps[j].data.length) (news := ps[j].data.map eA) el_23 (.inr ⟨_, Tryz.underlying23⟩) (Sl.empty hs hb16) rfl rfl ((hRB.mono hle).src hs.isIn) (dH _) (by omega) (by omega) rfl (fun v19 w hs => ⟨fun _ => hs.st.get (k := 0) rfl, ?_⟩))⟩)))))))
 obtain ⟨V', hle', hsv, hs⟩ := hs.give
 have hRB' : RB V' v19 ps[j].data := by unfold RB; simpa using hsv
 refine dI 7 rfl (fun w => (bL rfl (by simp only [List.all_cons, List.all_nil, hRB'.oneCell]; rfl) (bu_25_0_1 _ _))) rfl rfl (dL 8 rfl (o_bslice (vls := [[.int .u16 ps[j].key, v19]]) el_26 hs rfl rfl rfl rfl (by simp) (by decide) (by decide) rfl (fun b21 w hb21 he21 hs => ⟨fun _ => hs.g 1 rfl, dL 9 rfl (fA (k := 1) (news := [.int .u16 ps[j].key, v19]) el_26 (.inr ⟨_, Tryz.underlying26⟩) (SlX.close (L := [_, _]) hX hs) rfl rfl (src_own (k := 0) hs rfl rfl) (bX rfl (bX hRB'.oneCell eQ)) (by omega) (by omega) rfl (fun v22 w hs => ⟨fun _ => hs.st.get (k := 1) rfl, ?_⟩))⟩)))
 replace hs := (hs.drop hb21).drop hb5
 refine dI 10 rfl (fun w => aD rfl) rfl rfl (bS (by decide +kernel) (aB (lp (bN rfl rfl (fV (c := j + 1) (by omega) (by omega))) rfl (dM rfl rfl (aH ?_)))))
 exact ⟨(j + 1, _, v22, V'), aL rfl (aL rfl (aL rfl (aL rfl (bG _)))), ⟨hs, by
  show Rows 2 (RPair V') (ps.take (j + 1)) _
  rw [List.take_succ, List.getElem?_eq_getElem hjl]
  exact Rows.snoc (hrows.mono fun _ _ h => h.mono hle') ⟨v19, rfl, hRB'⟩ rfl, by simp only; omega⟩, by simp only; omega⟩
 refine eT (aF ?_)
 have hjn : j = ps.length := by omega
 subst hjn
 rw [List.take_length] at hrows
 obtain ⟨V', hle', hsv, hs⟩ := hsl.give
 refine aB (dM rfl rfl (dN rfl rfl (aH (aV ⟨_, fW rfl, ?_⟩))))
 exact ⟨V', hs, _, hsv, hrows.mono fun _ _ h => h.mono hle'⟩
def optC (sv : Value) : List Value := eY { kind := 10 } (.slice none 0 0) (.slice none 0 0) sv
set_option maxHeartbeats 1000000 in
theorem c_fromOPT (hV : V.In w0) (hB : fL V 10 t r cs) (hsm : Small r) :
  eC Tryz.prog 106 #[.agg cs.toArray] w0 fun v w' => ∃ (V' : Vw) (rc : List Value), v = .agg rc.toArray ∧ St ⟨w0, V, V'⟩ w' [] ∧ RRec V' (only 10 t r) rc := by
 obtain ⟨pv, rfl, hP⟩ := hB
 obtain ⟨_, _, hn, hd⟩ := hsm
 obtain ⟨xs, hS, hR⟩ := hP
 obtain ⟨a, cap, rfl, hcap, ha⟩ := hS.form
 have hs := St.start hV
 refine aT [_] Tryz.func106 Tryz.ntmps106 Tryz.results106 rfl rfl (dP (aJ (cR hs rfl rfl rfl (fun b1 w hb1 hbe1 hs => aJ (aX hs z_30 rfl (fun b2 w hb2 he2 hs => aH (dP (lp (bL rfl (by rfl) (bu_30_5 _)) rfl (aJ (aX hs z_30 rfl (fun b3 w hb3 he3 hs => aJ (dR 0 hs eJ rfl rfl rfl rfl rfl (aG rfl) rfl (fun w hs => aH (aF (dP (lp (aR fo_205_0 rfl) rfl (lp (aO rfl (aQ k_203 (hs.g 2 rfl) rfl)) rfl ?_)))))))))))))))))
 refine lp (bC Tryz.underlying203 rfl) rfl (dM rfl rfl ?_)
 obtain ⟨z2, hz2l, hs⟩ : ∃ z2 : List Value, z2.length = 16 ∧ St ⟨w0, V, V⟩ w [(b3, .cells (optC (.slice none 0 0)).toArray 30 (0, 0)), (b2, .cells z2.toArray 30 (0, 0)), (b1, .cells [Value.slice a r.pairs.length cap].toArray 205 (0, 0))] := ⟨_, rfl, hs⟩
 refine aH (bQ (dC (fun g : Nat × List Value × Value × Vw => eH (eH (eH (eH (eH emp 10 (.int .i64 g.1)) 9 (.int .i64 r.pairs.length)) 8 (.slice a r.pairs.length cap)) 3 (.pointer (some ⟨b3, 0, none⟩))) 2 (.pointer (some ⟨b2, 0, none⟩))) (fun g w' => Sl 25 2 ⟨w0, V, g.2.2.2⟩ w' [(b3, .cells (optC g.2.2.1).toArray 30 (0, 0)), (b2, .cells z2.toArray 30 (0, 0)), (b1, .cells [Value.slice a r.pairs.length cap].toArray 205 (0, 0))] g.2.2.1 g.1 g.2.1 ∧ Rows 2 (RPair g.2.2.2) (r.pairs.take g.1) g.2.1 ∧ g.1 ≤ r.pairs.length) (fun g => r.pairs.length - g.1) (0, [], .slice none 0 0, V) (aL rfl (aL rfl (aL rfl (aL rfl (aL rfl (bG _)))))) ⟨Sl.nil hs, rfl, Nat.zero_le _⟩ ?_))
 clear hs
 rintro ⟨j, ys, sv, Vc⟩ w ⟨hsl, hrows, hj⟩
 simp only at hsl hrows hj ⊢
 have hle := hsl.st.view
 refine dP (lp (cY rfl rfl) rfl (aH (aF (bH rfl (fun hc0 => ?_) (fun hc0 => ?_)))))
 obtain ⟨b, p, rfl, hc⟩ := ha (by omega)
 have hjl : j < r.pairs.length := by omega
 obtain ⟨c, ⟨vd, rfl, hRB⟩, hcl, hct⟩ := hR.at (List.getElem?_eq_getElem hjl)
 have hdl := hd _ (List.getElem_mem hjl)
 obtain ⟨X, hX, hs⟩ := hsl.open
 refine aW (aF (bQ (dP (lp (eZ j (p + j * 2) es_203 rfl rfl rfl hjl rfl) rfl ?_))))
 refine lp (aO rfl (ld_cells (l := [.int .u16 r.pairs[j].key, vd]) k_304 rfl (fun i u hu => by
  rw [Nat.add_assoc]
  exact Vw.cell_in hs.isIn (Vw.cell_le hle (hc _ _ (fN hct hu)))))) rfl ?_
 refine aJ (aX hs z_304 rfl (fun b5 w hb5 he5 hs => aJ (dR 0 hs k_304 rfl rfl rfl rfl rfl (bX rfl (bX hRB.oneCell eQ)) rfl (fun w hs => aH (e_draw (fun w2 => w2.heap[b5]? = some (.cells [Value.int .u16 r.pairs[j].key, vd].toArray 304 (0, 0)) ∧ w2.heap[b3]? = some (.cells (optC sv).toArray 30 (0, 0))) [1, 3, 6] mixed (fun w hw => ?_))))))
 replace hs := hw.st hs
 refine dI 0 rfl (fun w => aR fo_30_15 rfl) rfl rfl (dJ 1 rfl (⟨hs.g 0 rfl, hs.g 1 rfl⟩) rfl (fun w hf => (aO rfl (aQ k_26 hf.2 rfl))) rfl (dI 2 rfl (fun w => aR fo_304_0 rfl) rfl rfl (dJ 3 rfl (⟨hs.g 0 rfl, hs.g 1 rfl⟩) rfl (fun w hf => (aO rfl (aQ eS hf.1 rfl))) rfl (dI 5 rfl (fun w => aR fo_304_1 rfl) rfl rfl (dJ 6 rfl (⟨hs.g 0 rfl, hs.g 1 rfl⟩) rfl (fun w hf => (aO rfl (aQ k_23 hf.1 rfl))) rfl (dL 4 rfl (fP es_23 hs rfl (fun b18 w hb18 he18 hs => ⟨fun _ => ⟨hs.g 1 rfl, hs.g 2 rfl⟩, dL 7 rfl (fA (k := r.pairs[j].data.length) (news := r.pairs[j].data.map eA) el_23 (.inr ⟨_, Tryz.underlying23⟩) (Sl.empty hs hb18) rfl rfl ((hRB.mono hle).src hs.isIn) (dH _) (by omega) (by omega) rfl (fun v21 w hs => ⟨fun _ => ⟨hs.st.get (k := 0) rfl, hs.st.get (k := 1) rfl⟩, ?_⟩))⟩))))))))
 obtain ⟨V', hle', hsv, hs⟩ := hs.give
 have hRB' : RB V' v21 r.pairs[j].data := by unfold RB; simpa using hsv
 refine dI 8 rfl (fun w => (bL rfl (by simp only [List.all_cons, List.all_nil, hRB'.oneCell]; rfl) (bu_25_0_1 _ _))) rfl rfl (dL 9 rfl (o_bslice (vls := [[.int .u16 r.pairs[j].key, v21]]) el_26 hs rfl rfl rfl rfl (by simp) (by decide) (by decide) rfl (fun b23 w hb23 he23 hs => ⟨fun _ => ⟨hs.g 1 rfl, hs.g 2 rfl⟩, dL 10 rfl (fA (k := 1) (news := [.int .u16 r.pairs[j].key, v21]) el_26 (.inr ⟨_, Tryz.underlying26⟩) (SlX.close (L := [_, _, _, _, _]) hX hs) rfl rfl (src_own (k := 0) hs rfl rfl) (bX rfl (bX hRB'.oneCell eQ)) (by omega) (by omega) rfl (fun v24 w hs => ⟨fun _ => ⟨hs.st.get (k := 1) rfl, hs.st.get (k := 2) rfl⟩, ?_⟩))⟩)))
 have hone := hs.oneCell
 obtain ⟨X2, hX2, hs⟩ := ((hs.drop hb23).drop hb5).open
 refine dI 11 rfl (fun w => aR fo_30_15 rfl) rfl rfl (dL 12 rfl (dQ 0 hs k_26 rfl rfl rfl hone rfl rfl rfl (fun w hs => ⟨fun h => absurd h (by decide +kernel), bS (by decide +kernel) (aB (lp (bN rfl rfl (fV (c := j + 1) (by omega) (by omega))) rfl (dM rfl rfl (aH ?_))))⟩)))
 exact ⟨(j + 1, _, v24, V'), aL rfl (aL rfl (aL rfl (aL rfl (aL rfl (bG _))))), ⟨SlX.close (L := [_, _, _]) hX2 hs, by
  show Rows 2 (RPair V') (r.pairs.take (j + 1)) _
  rw [List.take_succ, List.getElem?_eq_getElem hjl]
  exact Rows.snoc (hrows.mono fun _ _ h => h.mono hle') ⟨v21, rfl, hRB'⟩ rfl, by simp only; omega⟩, by simp only; omega⟩
 refine eT (aF ?_)
 have hjn : j = r.pairs.length := by omega
 subst hjn
 rw [List.take_length] at hrows
 have hone := hsl.oneCell
 obtain ⟨V', hle', hsv, hs⟩ := hsl.give
 refine aB (lp (aO rfl (aP eJ (hs.g 0 rfl) rfl)) rfl (aJ (dR 1 hs eJ rfl rfl rfl rfl hz2l (aG (by unfold optC eY; simp only [List.all_cons, List.all_nil, hone]; rfl)) rfl (fun w hs => aH (aV ⟨_, fW ⟨_, rfl, aP eJ (hs.g 1 rfl) rfl⟩, ?_⟩)))))
 exact ⟨V', _, rfl, ((hs.drop hb3).drop hb2).drop hb1, _, _, _, rfl, RB.nil V', fF.nil V', _, hsv, hrows.mono fun _ _ h => h.mono hle'⟩
theorem c_fromSVCB (hV : V.In w0) (hB : fL V 11 t r cs) (hsm : Small r) :
  eC Tryz.prog 108 #[.agg cs.toArray] w0 fun v w' => ∃ (V' : Vw) (vp : Value), v = .agg (eY (only 11 t r) (.slice none 0 0) (.slice none 0 0) vp).toArray ∧ St ⟨w0, V, V'⟩ w' [] ∧ eV V' vp r.pairs := by
 obtain ⟨pv, rfl, hn, hx1, hP⟩ := hB
 obtain ⟨_, _, hn2, hd⟩ := hsm
 have hnl := cM (out := r.host) (n := r.host.length) (by omega)
 have hnl' : (Value.int .u16 r.n1 :: nmC r.host r.host.length).length = 257 := by simp [hnl]
 have hs := St.start hV
 refine aT [_] Tryz.func108 Tryz.ntmps108 Tryz.results108 rfl rfl (dP (aJ (cR hs rfl rfl rfl (fun b1 w hb1 hbe1 hs => aJ (aX hs z_30 rfl (fun b2 w hb2 he2 hs => aH (aF (bV hs [1, 4, 7] mixed (fun w hs => dI 0 rfl (fun w => aR fo_211_0 rfl) rfl rfl (dJ 1 rfl hs rfl (fun w hs => (aO rfl (aQ eS (hs.g 1 rfl) rfl))) rfl (dI 2 rfl (fun w => (bY Tryz.underlying22 Tryz.underlying27 rfl (u32c (c := r.n1) rfl (by omega)))) rfl rfl (dI 3 rfl (fun w => aR fo_211_1 rfl) rfl rfl (dJ 4 rfl hs rfl (fun w hs => (aO rfl (ld_part (pre := [.int .u16 r.n1]) (a := nmC r.host r.host.length) (post := [pv]) k_86 (hs.g 1 rfl) rfl hnl))) rfl (dI 6 rfl (fun w => aR fo_211_2 rfl) rfl rfl (dJ 7 rfl hs rfl (fun w hs => (aO rfl (cT (a := .int .u16 r.n1 :: nmC r.host r.host.length) (l := [pv]) k_209 (hs.g 1 rfl) hnl' (i := 0) rfl rfl))) rfl ?_)))))))))))))))
 refine dL 5 rfl (cF (cD rfl rfl ok_113 (c_textOf hs.isIn r.host hn)) rfl (fun v8 w HF => ?_))
 obtain ⟨rfl, hc⟩ := HF
 replace hs := hs.frame hc
 refine ⟨fun _ => hs, dL 8 rfl (cF (cD rfl rfl ok_171 (c_pairsOf hs.isIn hP hn2 hd)) rfl (fun v11 w HF => ?_))⟩
 obtain ⟨V', hc, hRP⟩ := HF
 replace hs := hs.frame hc
 refine ⟨fun _ => hs.less, dI 9 rfl (fun w => (bL rfl (by simp only [List.all_cons, List.all_nil, hRP.oneCell]; rfl) (bu_30_5_9_7_15 _ _ _ _))) rfl rfl (dL 10 rfl (dR 0 hs eJ rfl rfl rfl rfl rfl (aG (by simp only [List.all_cons, List.all_nil, hRP.oneCell]; rfl)) rfl (fun w hs => ⟨fun h => absurd h (by decide +kernel), bS (by decide +kernel) (aV ⟨_, fW ⟨_, rfl, aP eJ (hs.g 0 rfl) rfl⟩, ?_⟩)⟩)))⟩
 exact ⟨V', _, rfl, (hs.drop hb2).drop hb1, hRP⟩
theorem c_fromHTTPS (hV : V.In w0) (hB : fL V 12 t r cs) (hsm : Small r) :
  eC Tryz.prog 110 #[.agg cs.toArray] w0 fun v w' => ∃ (V' : Vw) (rc : List Value), v = .agg rc.toArray ∧ St ⟨w0, V, V'⟩ w' [] ∧ RRec V' (only 12 t r) rc := by
 have hB' : fL V 11 t r cs := hB
 have hcl : cs.length = 258 := by
  obtain ⟨pv, rfl, hn, _⟩ := hB
  have hnl := cM (out := r.host) (n := r.host.length) (by omega)
  simp [hnl]
 have hs := St.start hV
 refine aT [_] Tryz.func110 Tryz.ntmps110 Tryz.results110 rfl rfl (dP (aJ (cR hs rfl rfl rfl (fun b1 w hb1 hbe1 hs => aJ (aX hs z_30 rfl (fun b2 w hb2 he2 hs => aH (dP (lp (aR fo_216_0 rfl) rfl (lp (aO rfl (aP k_211 (hs.g 1 rfl) hcl)) rfl (aZ ok_108 rfl rfl (c_fromSVCB hs.isIn hB' hsm) rfl (fun v6 w HF => ?_)))))))))))
 obtain ⟨V', vp, rfl, hc, hRP⟩ := HF
 replace hs := hs.frame hc
 refine aJ (aX hs z_30 rfl (fun b3 w hb3 he3 hs => aJ (dR 0 hs eJ rfl rfl rfl rfl rfl (aG (by unfold eY; simp only [List.all_cons, List.all_nil, hRP.oneCell]; rfl)) rfl (fun w hs => aH (dP (lp (aR fo_30_5 rfl) rfl (aJ (dQ 0 hs cH rfl rfl rfl rfl rfl rfl rfl (fun w hs => aH (dP (lp (aO rfl (aP eJ (hs.g 0 rfl) (by simp))) rfl (aJ (dR 1 hs eJ rfl rfl rfl rfl rfl (aG (by simp only [List.all_cons, List.all_nil, hRP.oneCell]; rfl)) rfl (fun w hs => aH (aV ⟨_, fW ⟨_, rfl, aP eJ (hs.g 1 rfl) rfl⟩, ?_⟩)))))))))))))))
 exact ⟨V', _, rfl, ((hs.drop hb3).drop hb2).drop hb1, _, _, _, rfl, RB.nil V', fF.nil V', hRP⟩
end
end Go.Proofs.YtgpfjlfkaoffeaaGreatDoor

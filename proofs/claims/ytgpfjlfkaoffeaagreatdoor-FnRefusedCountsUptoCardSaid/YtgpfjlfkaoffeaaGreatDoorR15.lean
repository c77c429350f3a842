/- Packing: names. -/
import Derived.Test.YtgpfjlfkaoffeaaGreatDoorR14
import Derived.Test.YtgpfjlfkaoffeaaGreatDoorR06
set_option linter.all false
namespace Go.Proofs.YtgpfjlfkaoffeaaGreatDoor
open Go
def Keys (t : List (List UInt8 × Nat)) : Prop := ∀ e ∈ t, e.2 < 16384 ∧ eB e.1 0 ≠ 46
theorem Keys.nil : Keys [] := fun _ h => by cases h
theorem tblAt_mem {t : List (List UInt8 × Nat)} {s : List UInt8} {p : Nat} (h : tblAt t s = some p) : (s, p) ∈ t := by
 unfold tblAt at h
 obtain ⟨e, h1, rfl⟩ := Option.map_eq_some_iff.1 h
 have h2 : e.1 = s := by simpa using List.find?_some h1
 subst h2
 exact List.mem_of_find?_eq_some h1
theorem Keys.app {t : List (List UInt8 × Nat)} (h : Keys t) {s : List UInt8} {p : Nat} (hp : p < 16384) (hs : eB s 0 ≠ 46) : Keys (t ++ [(s, p)]) := fun e he => by
 rcases List.mem_append.1 he with he | he
 exact h e he
 simp at he; subst he; exact ⟨hp, hs⟩
theorem byteAt_drop (s : List UInt8) (b j : Nat) : eB (s.drop b) j = eB s (b + j) := by simp [eB, List.getElem?_drop]
theorem Keys.none {t : List (List UInt8 × Nat)} (h : Keys t) {s : List UInt8} (hs : eB s 0 = 46) : tblAt t s = none := by
 cases he : tblAt t s with
 | none => rfl
 | some p => exact absurd hs (h _ (tblAt_mem he)).2
structure NInv (short : Bool) (s out : List UInt8) (R : Option Ink) (i b : Nat) (o : List UInt8) (t : List (List UInt8 × Nat)) (na : List UInt8) : Prop where
 hb : b ≤ i
 hi : i ≤ s.length
 head : b = 0 ∨ eB s (b - 1) = 46
 no : ∀ j, b ≤ j → j < i → eB s j ≠ 46
 keys : Keys t
 len : o.length = out.length + b
 go : i = b → goN short (s.drop b) ⟨o, t⟩ = R
 mid : b < i → midN short (s.drop b) ⟨o, t⟩ = R
 na : na = [] ∨ na = s
section
variable {short : Bool} {s out o na : List UInt8} {R : Option Ink} {i b : Nat} {t : List (List UInt8 × Nat)}
theorem drop_ne (h : b < s.length) : s.drop b ≠ [] := fun e => by have := congrArg List.length e; simp at this; omega
theorem NInv.dot0 (h : NInv short s out R i b o t na) (hi : i < s.length) (hd : eB s i = 46) (he : i = b) : R = none := by
 subst he
 have hl : eO (s.drop i) = [] := by rw [label_seg (Nat.le_refl i) hi (fun j h1 h2 => by omega) hd]; simp [seg]
 rw [← h.go rfl, goN_step (drop_ne hi) (.inr (h.keys.none (by rw [byteAt_drop]; exact hd)))]
 unfold midN
 rw [if_pos (.inl (by rw [hl]; rfl))]
theorem NInv.dotL (h : NInv short s out R i b o t na) (hi : i < s.length) (hd : eB s i = 46) (he : 64 ≤ i - b) : R = none := by
 have hl : eO (s.drop b) = seg s b (i - b) := label_seg h.hb hi h.no hd
 have hn : (seg s b (i - b)).length = i - b := seg_len (by have := h.hb; omega)
 rw [← h.mid (by omega)]
 unfold midN
 rw [if_pos (.inr (by rw [hl, hn]; omega))]
theorem NInv.dot (h : NInv short s out R i b o t na) (hi : i < s.length) (hd : eB s i = 46) (h0 : b < i) (he : i - b < 64) : NInv short s out R (i + 1) (i + 1) (o ++ UInt8.ofNat (i - b) :: seg s b (i - b)) t na := by
 have hl : eO (s.drop b) = seg s b (i - b) := label_seg h.hb hi h.no hd
 have hn : (seg s b (i - b)).length = i - b := seg_len (by have := h.hb; omega)
 refine ⟨Nat.le_refl _, hi, .inr (by simpa using hd), fun j h1 h2 => by omega, h.keys, by simp [hn, h.len]; omega, fun _ => ?_, fun h => by omega, h.na⟩
 rw [← h.mid h0]
 unfold midN
 rw [hl, hn, if_neg (by omega), List.drop_drop, show b + (i - b + 1) = i + 1 by omega]
theorem NInv.skip (h : NInv short s out R i b o t na) (hi : i < s.length) (hd : eB s i ≠ 46) (h0 : b < i) : NInv short s out R (i + 1) b o t na :=
 ⟨by have := h.hb; omega, hi, h.head, fun j h1 h2 => by
  by_cases hj : j = i
  subst hj; exact hd
  exact h.no j h1 (by omega), h.keys, h.len, fun he => by have := h.hb; omega, fun _ => h.mid h0, h.na⟩
theorem NInv.miss (h : NInv short s out R i b o t na) (hi : i < s.length) (hd : eB s i ≠ 46) (he : i = b) (hm : short = false ∨ tblAt t (s.drop b) = none) {na' : List UInt8} (hna : na' = [] ∨ na' = s) :
  NInv short s out R (i + 1) b o (if short ∧ o.length < 16384 then t ++ [(s.drop b, o.length)] else t) na' := by
 subst he
 refine ⟨by omega, hi, h.head, fun j h1 h2 => by rw [show j = i by omega]; exact hd, ?_, h.len, fun he => by omega, fun _ => ?_, hna⟩
 split
 rename_i hc
 exact h.keys.app hc.2 (by rw [byteAt_drop]; exact hd)
 exact h.keys
 rw [← h.go rfl, goN_step (drop_ne hi) hm]; rfl
theorem NInv.last (h : NInv short s out R s.length b o t na) (h0 : 0 < s.length) (hl : eB s (s.length - 1) = 46) : R = some ⟨o ++ [0], t⟩ := by
 have hb : b = s.length := by
  rcases Nat.lt_or_ge b s.length with h' | h'
  exact absurd hl (h.no _ (by omega) (by omega))
  have := h.hb; omega
 subst hb
 rw [← h.go rfl, List.drop_length, goN_nil]; rfl
theorem nameP_go {w : Ink} (h0 : 0 < s.length) (h1 : s.length ≤ 254) (hl : eB s (s.length - 1) = 46) (hne : s ≠ [46]) : nameP short s w = goN short s w := by
 have hs : s ≠ [] := fun e => by subst e; simp at h0
 have hg : s.getLast? = some 46 := by
  rw [List.getLast?_eq_getElem?]
  unfold eB at hl
  have hx : s[s.length - 1]? = some s[s.length - 1] := List.getElem?_eq_getElem (by omega)
  rw [hx]
  rw [List.getD_eq_getElem?_getD, hx] at hl
  exact congrArg some (UInt8.toNat_inj.1 hl)
 unfold nameP goN
 rw [if_neg (by rintro (h | h | h); exact hs h; omega; exact h hg), if_neg hne]
theorem nameP_no {w : Ink} (h : s.length = 0 ∨ 254 < s.length ∨ eB s (s.length - 1) ≠ 46) : nameP short s w = none := by
 unfold nameP
 rw [if_pos]
 rcases h with h | h | h
 exact .inl (List.eq_nil_of_length_eq_zero h)
 exact .inr (.inl h)
 refine .inr (.inr fun hg => h ?_)
 rw [List.getLast?_eq_getElem?] at hg
 unfold eB
 rw [List.getD_eq_getElem?_getD, hg]; rfl
theorem nameP_dot {w : Ink} (h : s = [46]) : nameP short s w = some (w.put [0]) := by
 subst h
 unfold nameP
 rw [if_neg (by rintro (h | h | h); cases h; simp at h; exact h rfl), if_pos rfl]
theorem is_dot : s = [46] ↔ eB s 0 = 46 ∧ s.length = 1 := by
 constructor
 rintro rfl; exact ⟨rfl, rfl⟩
 rintro ⟨h1, h2⟩
 match s, h1, h2 with
 | [a], h1, _ => rw [show a = 46 from UInt8.toNat_inj.1 (by simpa [eB] using h1)]
end
theorem zero16 (w : World) : (zeroValue 22).run Tryz.prog w = .ok (.int .u16 0) w := run_zeroOf (by kernel_rfl) w
def npE (nv cv ov sv : Value) (off i b : Nat) (na : List UInt8) : Env := eH (eH (eH (eH (eH (eH (eH (eH emp 13 (.int .i64 b)) 12 (.int .i64 i)) 11 (fR na)) 10 ov) 3 (.int .i64 off)) 2 cv) 1 sv) 0 nv
theorem npE_sub {nv cv ov sv : Value} {off i b : Nat} {na : List UInt8} {ρ : Env} (h0 : ρ 0 = some nv) (h1 : ρ 1 = some sv) (h2 : ρ 2 = some cv) (h3 : ρ 3 = some (.int .i64 off)) (h10 : ρ 10 = some ov) (h11 : ρ 11 = some (fR na)) (h12 : ρ 12 = some (.int .i64 i))
  (h13 : ρ 13 = some (.int .i64 b)) : Sub (npE nv cv ov sv off i b na) ρ :=
 aL h0 (aL h1 (aL h2 (aL h3 (aL h10 (aL h11 (aL h12 (aL h13 (bG _))))))))
section
variable {A : Nat → Addr} {V V0 : Vw} {w w00 : World} {L : List (Nat × Obj)} {msg : Value} {m bm bn p0 : Nat} {pre out s : List UInt8} {t : List (List UInt8 × Nat)}
set_option maxHeartbeats 4000000 in
theorem p_nameF (hG : Gl A V) (hs : Sl 5 1 ⟨w00, V0, V⟩ w L msg (pre.length + out.length) ((pre ++ out).map eA)) (hm : pre.length + out.length ≤ 549755813888) (hN : NameW ⟨w00, V0, V⟩ L bn p0 s) (hk : Keys t) :
  eC Tryz.prog 144 #[(.pointer (some ⟨bn, p0, none⟩)), msg, (.map none), .int .i64 (pre.length : Nat)] w fun v w' => ∃ (mv e : Value) (k : EK), v = .tuple #[mv, e] ∧ ErrV A e k ∧
   ((∃ w2 : Ink, k = .ok ∧ nameP false s ⟨out, t⟩ = some w2 ∧ Keys w2.tbl ∧ Sl 5 1 ⟨w00, V0, V⟩ w' L mv (pre.length + w2.out.length) ((pre ++ w2.out).map eA)) ∨
    (k = .other ∧ nameP false s ⟨out, t⟩ = none ∧ ∃ t' : List (List UInt8 × Nat), St ⟨w00, V0, V⟩ w' L)) := by
 have hs255 := hN.1
 have hM : ∀ {X : List (Nat × Obj)}, ∀ x ∈ L, x ∈ L ++ X := fun x hx => List.mem_append_left _ hx
 obtain ⟨X, hX, hs⟩ := hs.open
 refine aT [_, _, _, _] Tryz.func144 Tryz.ntmps144 Tryz.results144 rfl rfl (dP (dN rfl rfl (dN rfl rfl (aH (dP (dM rfl rfl (dN rfl rfl (aH (aF (dP (dM rfl rfl (lp (aN rfl) rfl (lp (bD fo_86_1 rfl) rfl ?_)))))))))))))
 refine lp (aO rfl (bR k_5 (hN.len hs hM))) rfl (lp (cQ rfl rfl) rfl (aH (bH rfl (fun hc0 => ?_) (fun hc0 => ?_))))
 refine aF ?_
 replace hs := (SlX.close hX hs).st
 refine bV hs [0] mixed (fun w hs => dJ 0 rfl hs rfl (fun w hs => (aO rfl (bR k_57 (hG.ld hs.isIn (g := 7) rfl)))) rfl (dI 1 rfl (fun w => aD rfl) rfl rfl (dI 2 rfl (fun w => aD rfl) rfl rfl (bS (by decide +kernel) (aV ⟨_, fX rfl rfl, ?_⟩)))))
 exact ⟨_, _, .other, rfl, errv_g rfl (by decide) (by decide), .inr ⟨rfl, nameP_no (.inr (.inl (by omega))), t, hs⟩⟩
 refine aW (aF (aF ?_))
 rcases Nat.eq_zero_or_pos s.length with hz | hz
 refine bV hs [3] mixed (fun w hs => dI 0 rfl (fun w => aC rfl) rfl rfl (dI 1 rfl (fun w => aN rfl) rfl rfl (dI 2 rfl (fun w => bD fo_86_1 rfl) rfl rfl (dJ 3 rfl hs rfl (fun w hs => (aO rfl (bR k_5 (hN.len hs hM)))) rfl (dI 4 rfl (fun w => (po_eqlT rfl rfl (by omega))) rfl rfl (dI 5 rfl (fun w => aC rfl) rfl rfl (a_gskip 6 rfl (by decide +kernel) rfl rfl rfl (fun h => absurd h (by decide +kernel)) rfl (a_gskip 7 rfl (by decide +kernel) rfl rfl rfl (fun h => absurd h (by decide +kernel)) rfl (a_gskip 8 rfl (by decide +kernel) rfl rfl rfl (fun h => absurd h (by decide +kernel)) rfl (a_gskip 9 rfl (by decide +kernel) rfl rfl rfl (fun h => absurd h (by decide +kernel)) rfl (a_gskip 10 rfl (by decide +kernel) rfl rfl rfl (fun h => absurd h (by decide +kernel)) rfl (a_gskip 11 rfl (by decide +kernel) rfl rfl rfl (fun h => absurd h (by decide +kernel)) rfl (a_gskip 12 rfl (by decide +kernel) rfl rfl rfl (fun h => absurd h (by decide +kernel)) rfl ?_)))))))))))))
 refine a_gskip 13 rfl (by decide +kernel) rfl rfl rfl (fun h => absurd h (by decide +kernel)) rfl (a_gskip 14 rfl (by decide +kernel) rfl rfl rfl (fun h => absurd h (by decide +kernel)) rfl (a_gskip 15 rfl (by decide +kernel) rfl rfl rfl (fun h => absurd h (by decide +kernel)) rfl (a_gskip 16 rfl (by decide +kernel) rfl rfl rfl (fun h => absurd h (by decide +kernel)) rfl (dI 17 rfl (fun w => bO rfl rfl rfl) rfl rfl (bS (by decide +kernel) (cO rfl rfl (aF ?_)))))))
 replace hs := (SlX.close hX hs).st
 refine bV hs [1] mixed (fun w hs => dI 0 rfl (fun w => aC rfl) rfl rfl (dJ 1 rfl hs rfl (fun w hs => (aO rfl (bR k_57 (hG.ld hs.isIn (g := 8) rfl)))) rfl (dI 2 rfl (fun w => aD rfl) rfl rfl (dI 3 rfl (fun w => aD rfl) rfl rfl (bS (by decide +kernel) (aV ⟨_, fX rfl rfl, ?_⟩))))))
 exact ⟨_, _, .other, rfl, errv_g rfl (by decide) (by decide), .inr ⟨rfl, nameP_no (.inl hz), t, hs⟩⟩
 refine bV hs [3, 10, 15] mixed (fun w hs => dI 0 rfl (fun w => aC rfl) rfl rfl (dI 1 rfl (fun w => aN rfl) rfl rfl (dI 2 rfl (fun w => bD fo_86_1 rfl) rfl rfl (dJ 3 rfl hs rfl (fun w hs => (aO rfl (bR k_5 (hN.len hs hM)))) rfl (dI 4 rfl (fun w => (po_eqlF rfl rfl (by omega))) rfl rfl (dI 5 rfl (fun w => aC rfl) rfl rfl (dK 6 rfl rfl rfl rfl (fun h => absurd h (by decide +kernel)) (fun w _ => (aC rfl)) rfl (dK 7 rfl rfl rfl rfl (fun h => absurd h (by decide +kernel)) (fun w _ => (aC rfl)) rfl (dK 8 rfl rfl rfl rfl (fun h => absurd h (by decide +kernel)) (fun w _ => (aN rfl)) rfl (dK 9 rfl rfl rfl rfl (fun h => absurd h (by decide +kernel)) (fun w _ => (bD fo_86_1 rfl)) rfl (dK 10 rfl rfl rfl rfl (fun _ => hs) (fun w h0 => have hs := h0 (by decide +kernel); (aO rfl (bR k_5 (hN.len hs hM)))) rfl (dK 11 rfl rfl rfl rfl (fun h => absurd h (by decide +kernel)) (fun w _ => (po_sub rfl rfl (u8c (c := s.length - 1) (by omega) (by omega)))) rfl (dK 12 rfl rfl rfl rfl (fun h => absurd h (by decide +kernel)) (fun w _ => (aN rfl)) rfl ?_)))))))))))))
 refine dK 13 rfl rfl rfl rfl (fun h => absurd h (by decide +kernel)) (fun w _ => (po_fa0' fo_86_0 rfl)) rfl (dK 14 rfl rfl rfl rfl (fun h => absurd h (by decide +kernel)) (fun w _ => (po_ia_arr ar_84 rfl rfl (by omega) (by omega))) rfl (dK 15 rfl rfl rfl rfl (fun _ => hs) (fun w h0 => have hs := h0 (by decide +kernel); (aO rfl (bR k_5 (hN.at hs hM (s.length - 1) rfl (by omega))))) rfl (dK 16 rfl rfl rfl rfl (fun h => absurd h (by decide +kernel)) (fun w _ => (po_neq rfl rfl)) rfl (dI 17 rfl (fun w => bW rfl rfl rfl) rfl rfl (bS (by decide +kernel) (bH rfl (fun hc2 => ?_) (fun hc2 => ?_)))))))
 refine aF ?_
 replace hs := (SlX.close hX hs).st
 refine bV hs [1] mixed (fun w hs => dI 0 rfl (fun w => aC rfl) rfl rfl (dJ 1 rfl hs rfl (fun w hs => (aO rfl (bR k_57 (hG.ld hs.isIn (g := 8) rfl)))) rfl (dI 2 rfl (fun w => aD rfl) rfl rfl (dI 3 rfl (fun w => aD rfl) rfl rfl (bS (by decide +kernel) (aV ⟨_, fX rfl rfl, ?_⟩))))))
 exact ⟨_, _, .other, rfl, errv_g rfl (by decide) (by decide), .inr ⟨rfl, nameP_no (.inr (.inr (by omega))), t, hs⟩⟩
 refine aW (aF (dG (fun ρ w => Sub (eH (eH (eH (eH (eH (eH emp 57 (.bool (decide (s = [46])))) 10 msg) 3 (.int .i64 (pre.length : Nat))) 2 (.map none)) 1 msg) 0 (.pointer (some ⟨bn, p0, none⟩))) ρ ∧ St ⟨w00, V0, V⟩ w (L ++ X)) ?_ ?_))
 rcases Classical.em (eB s 0 = 46) with h46 | h46
 have hg : true = true := rfl
 refine aB (dM rfl rfl (lp (aN rfl) rfl (lp (po_fa0' fo_86_0 rfl) rfl (lp (po_ia_arr ar_84 rfl rfl (by omega) (by omega)) rfl (lp (aO rfl (bR k_5 (hN.at hs hM 0 rfl (by omega)))) rfl (lp (po_eqlT rfl rfl (by omega)) rfl (dM rfl rfl (lg rfl rfl hg (aC rfl) rfl (lg rfl rfl hg (aN rfl) rfl (lg rfl rfl rfl (bD fo_86_1 rfl) rfl (lg rfl rfl rfl (aO rfl (bR k_5 (hN.len hs hM))) rfl (lg rfl rfl hg (bI rfl rfl) rfl (lp (bO rfl rfl rfl) rfl ?_)))))))))))))
 refine aH ?_
 have hd : decide (((s.length : Nat) : Int) = 1) = decide (s = [46]) := by apply decide_eq_decide.2; rw [is_dot]; omega
 exact ⟨aL rfl (aL rfl (aL rfl (aL rfl (aL rfl (aL (congrArg (fun q => some (Value.bool q)) hd) (bG _)))))), hs⟩
 have hg : false = !true := rfl
 refine aB (dM rfl rfl (lp (aN rfl) rfl (lp (po_fa0' fo_86_0 rfl) rfl (lp (po_ia_arr ar_84 rfl rfl (by omega) (by omega)) rfl (lp (aO rfl (bR k_5 (hN.at hs hM 0 rfl (by omega)))) rfl (lp (po_eqlF rfl rfl (by omega)) rfl (dM rfl rfl (aU rfl rfl hg rfl (aU rfl rfl hg rfl (aU rfl rfl hg rfl (aU rfl rfl hg rfl (aU rfl rfl hg rfl (lp (bW rfl rfl rfl) rfl ?_)))))))))))))
 refine aH ?_
 have hd : false = decide (s = [46]) := by symm; apply decide_eq_false; rw [is_dot]; omega
 exact ⟨aL rfl (aL rfl (aL rfl (aL rfl (aL rfl (aL (congrArg (fun q => some (Value.bool q)) hd) (bG _)))))), hs⟩
 clear hs
 rintro ρ w ⟨hsub, hs⟩
 refine EW.weaken hsub (bH rfl (fun hc3 => ?_) (fun hc3 => ?_))
 refine dP (dM rfl rfl (l_appB [0] el_23 (SlX.close hX hs) (fun _ => rfl) rfl rfl rfl (by decide) (by decide) (by omega) (by omega) rfl rfl (fun b59 v60 w hs => ?_)))
 skip
 refine dN rfl rfl (dN rfl rfl (aH (aV ⟨_, fX rfl rfl, ?_⟩)))
 exact ⟨_, _, .ok, rfl, rfl, .inl ⟨_, rfl, nameP_dot hc3, hk, by simpa [Ink.put, Nat.add_assoc] using hs⟩⟩
 refine aW (aF ?_)
 have hlast : eB s (s.length - 1) = 46 := by omega
 have hgo := nameP_go (short := false) (w := ⟨out, t⟩) hz (by omega) hlast hc3
 refine aB (dN rfl rfl (aH (aF (dP (dN rfl rfl (dN rfl rfl (aH (bQ (dC (fun g : Nat × Nat × List UInt8 × List (List UInt8 × Nat) × Value × List UInt8 => npE (.pointer (some ⟨bn, p0, none⟩)) (.map none) msg g.2.2.2.2.1 pre.length g.1 g.2.1 g.2.2.2.2.2) (fun g w => Sl 5 1 ⟨w00, V0, V⟩ w L g.2.2.2.2.1 (pre.length + g.2.2.1.length) ((pre ++ g.2.2.1).map eA) ∧ NInv false s out (nameP false s ⟨out, t⟩) g.1 g.2.1 g.2.2.1 g.2.2.2.1 g.2.2.2.2.2) (fun g => s.length - g.1) (0, 0, out, t, msg, []) (npE_sub rfl rfl rfl rfl rfl rfl rfl rfl) ⟨SlX.close hX hs, ⟨Nat.le_refl _, Nat.zero_le _, .inl rfl, fun j h1 h2 => by omega, hk, by simp, fun _ => hgo.symm, fun h => by omega, .inl rfl⟩⟩ ?_)))))))))
 clear hs hX
 rintro ⟨i, b, o, t, sv, na⟩ w ⟨hs, hI⟩
 simp only at hs hI ⊢
 have hop := hs.open
 clear hs
 obtain ⟨X, hX, hs⟩ := hop
 have hIb := hI.hb
 have hIi := hI.hi
 have hIl := hI.len
 refine aF (dP (dM rfl rfl (dM rfl rfl (lp (aN rfl) rfl (lp (bD fo_86_1 rfl) rfl (lp (aO rfl (bR k_5 (hN.len hs hM))) rfl (lp (bY Tryz.underlying5 Tryz.underlying3 rfl (fV (c := s.length) rfl (by omega))) rfl (lp (cY rfl rfl) rfl (aH (bH rfl (fun hc4 => ?_) (fun hc4 => ?_)))))))))))
 have hil : i < s.length := by omega
 refine aW (aF (bQ (aF (dP (dM rfl rfl (dM rfl rfl (lp (aN rfl) rfl (lp (po_fa0' fo_86_0 rfl) rfl (lp (po_ia_arr ar_84 rfl rfl (by omega) (by omega)) rfl (lp (aO rfl (bR k_5 (hN.at hs hM i rfl hil))) rfl (lp (bI rfl rfl) rfl (aH (bH rfl (fun hc5 => ?_) (fun hc5 => ?_))))))))))))))
 have hdot : eB s i = 46 := by omega
 refine aF (dP (dM rfl rfl (dM rfl rfl (lp (po_sub rfl rfl (fV (c := i - b) (by omega) (by omega))) rfl (lp (po_geq rfl rfl) rfl (aH (bH rfl (fun hc6 => ?_) (fun hc6 => ?_))))))))
 refine aF ?_
 replace hs := (SlX.close hX hs).st
 refine bV hs [1] mixed (fun w hs => dI 0 rfl (fun w => aC rfl) rfl rfl (dJ 1 rfl hs rfl (fun w hs => (aO rfl (bR k_57 (hG.ld hs.isIn (g := 9) rfl)))) rfl (dI 2 rfl (fun w => aD rfl) rfl rfl (dI 3 rfl (fun w => aD rfl) rfl rfl (bS (by decide +kernel) (aV ⟨_, fX rfl rfl, ?_⟩))))))
 exact ⟨_, _, .other, rfl, errv_g rfl (by decide) (by decide), .inr ⟨rfl, hI.dotL hil hdot (by omega), t, hs⟩⟩
 refine aW (aF (dP (dM rfl rfl (dM rfl rfl (lp (po_sub rfl rfl (fV (c := i - b) (by omega) (by omega))) rfl (lp (bI rfl rfl) rfl (aH (bH rfl (fun hc7 => ?_) (fun hc7 => ?_)))))))))
 refine aF ?_
 replace hs := (SlX.close hX hs).st
 refine bV hs [1] mixed (fun w hs => dI 0 rfl (fun w => aC rfl) rfl rfl (dJ 1 rfl hs rfl (fun w hs => (aO rfl (bR k_57 (hG.ld hs.isIn (g := 10) rfl)))) rfl (dI 2 rfl (fun w => aD rfl) rfl rfl (dI 3 rfl (fun w => aD rfl) rfl rfl (bS (by decide +kernel) (aV ⟨_, fX rfl rfl, ?_⟩))))))
 exact ⟨_, _, .other, rfl, errv_g rfl (by decide) (by decide), .inr ⟨rfl, hI.dot0 hil hdot (by omega), t, hs⟩⟩
 refine aW (dP (dM rfl rfl (dM rfl rfl (dM rfl rfl (lp (po_sub rfl rfl (fV (c := i - b) (by omega) (by omega))) rfl (lp (bY Tryz.underlying3 Tryz.underlying5 rfl u8lo) rfl (l_appB [UInt8.ofNat (i - b)] el_23 (SlX.close hX hs) (fun _ => rfl) rfl rfl rfl (by decide) (by decide) (by omega) (by omega) rfl rfl (fun b94 v95 w hs => ?_))))))))
 skip
 refine dN rfl rfl (aH (aF (dP (dM rfl rfl (dN rfl rfl (aH (bQ (dC (fun g : Nat × Value => eH (npE (.pointer (some ⟨bn, p0, none⟩)) (.map none) msg g.2 pre.length i b na) 14 (.int .i64 g.1)) (fun g w => Sl 5 1 ⟨w00, V0, V⟩ w L g.2 (pre.length + (o.length + 1 + (g.1 - b))) ((pre ++ (o ++ UInt8.ofNat (i - b) :: seg s b (g.1 - b))).map eA) ∧ b ≤ g.1 ∧ g.1 ≤ i) (fun g => i - g.1) (b, v95) (aL rfl (npE_sub rfl rfl rfl rfl rfl rfl rfl rfl)) ⟨by simpa [seg, Nat.add_assoc] using hs, Nat.le_refl _, hIb⟩ ?_))))))))
 clear hs hX
 rintro ⟨j, sv2⟩ w ⟨hs, hj1, hj2⟩
 simp only at hs hj1 hj2 ⊢
 obtain ⟨X, hX, hs⟩ := hs.open
 refine aF (dP (dM rfl rfl (dM rfl rfl (lp (cY rfl rfl) rfl (aH (bH rfl (fun hc8 => ?_) (fun hc8 => ?_)))))))
 refine aW (aF (bQ (aB (dM rfl rfl (dM rfl rfl (dM rfl rfl (lp (aN rfl) rfl (lp (po_fa0' fo_86_0 rfl) rfl (lp (po_ia_arr ar_84 rfl rfl (by omega) (by omega)) rfl (lp (aO rfl (bR k_5 (hN.at hs hM j rfl (by omega)))) rfl (l_appB [s.getD j 0] el_23 (SlX.close hX hs) (fun _ => rfl) rfl rfl rfl (by decide) (by decide) (by omega) (by omega) rfl rfl (fun b109 v110 w hs => ?_))))))))))))
 skip
 refine dN rfl rfl (aH (aB (dM rfl rfl (lp (bN rfl rfl (fV (c := j + 1) (by omega) (by omega))) rfl (dN rfl rfl (aH ?_))))))
 have hse : seg s b (j + 1 - b) = seg s b (j - b) ++ [s.getD j 0] := by
  unfold seg
  rw [show j + 1 - b = (j - b) + 1 by omega, List.take_add_one, List.getElem?_drop, show b + (j - b) = j by omega, List.getElem?_eq_getElem (by omega)]
  simp [List.getD, List.getElem?_eq_getElem (show j < s.length by omega)]
 exact ⟨(j + 1, v110), aL rfl (npE_sub rfl rfl rfl rfl rfl rfl rfl rfl), ⟨by simp only [hse]; rw [show pre.length + (o.length + 1 + (j + 1 - b)) = pre.length + (o.length + 1 + (j - b)) + 1 by omega]; simpa [List.append_assoc] using hs, by omega, by omega⟩, by simp only; omega⟩
 refine eT (dP (dM rfl rfl (lp (bN rfl rfl (fV (c := i + 1) (by omega) (by omega))) rfl (dN rfl rfl (aH (eT (aB (dM rfl rfl (lp (bN rfl rfl (fV (c := i + 1) (by omega) (by omega))) rfl (dN rfl rfl (aH ?_)))))))))))
 obtain rfl : j = i := by omega
 exact ⟨(j + 1, j + 1, _, t, sv2, na), npE_sub rfl rfl rfl rfl rfl rfl rfl rfl, ⟨by have hq := hs; have hsl : (seg s b (j - b)).length = j - b := seg_len (by omega); simpa [hsl, Nat.add_assoc, Nat.add_comm, Nat.add_left_comm] using hq, hI.dot hil hdot (by omega) (by omega)⟩, by simp only; omega⟩
 have hdot : eB s i ≠ 46 := by omega
 refine aW (dG (fun ρ w => Sub (eH (npE (.pointer (some ⟨bn, p0, none⟩)) (.map none) msg sv pre.length i b na) 128 (.bool (false))) ρ ∧ St ⟨w00, V0, V⟩ w (L ++ X)) ?_ ?_)
 rcases (show i = 0 ∨ (0 < i ∧ eB s (i - 1) = 46) ∨ (0 < i ∧ eB s (i - 1) ≠ 46) by omega) with hz0 | ⟨hz0, hz1⟩ | ⟨hz0, hz1⟩
 refine aB (dM rfl rfl (lp (po_eqlT rfl rfl (by omega)) rfl (dM rfl rfl (aU rfl rfl rfl rfl (aU rfl rfl rfl rfl (aU rfl rfl rfl rfl (aU rfl rfl rfl rfl (aU rfl rfl rfl rfl (aU rfl rfl rfl rfl (aU rfl rfl rfl rfl (aU rfl rfl rfl rfl (lp (bO rfl rfl rfl) rfl (dM rfl rfl ?_)))))))))))))
 refine lg rfl rfl rfl (aC rfl) rfl (lg rfl rfl rfl (po_neq_mapN Tryz.underlying137 rfl) rfl (lp (bO rfl rfl rfl) rfl (aH ?_)))
 exact ⟨aL rfl (npE_sub rfl rfl rfl rfl rfl rfl rfl rfl), hs⟩
 refine aB (dM rfl rfl (lp (po_eqlF rfl rfl (by omega)) rfl (dM rfl rfl (lg rfl rfl rfl (aC rfl) rfl (lg rfl rfl rfl (aC rfl) rfl (lg rfl rfl rfl (po_sub rfl rfl (fV (c := i - 1) (by omega) (by omega))) rfl (lg rfl rfl rfl (aN rfl) rfl (lg rfl rfl rfl (po_fa0' fo_86_0 rfl) rfl (lg rfl rfl rfl (po_ia_arr ar_84 rfl rfl (by omega) (by omega)) rfl (lg rfl rfl rfl (aO rfl (bR k_5 (hN.at hs hM (i - 1) rfl (by omega)))) rfl (lg rfl rfl rfl (po_eqlT rfl rfl (by omega)) rfl (lp (bW rfl rfl rfl) rfl (dM rfl rfl ?_)))))))))))))
 refine lg rfl rfl rfl (aC rfl) rfl (lg rfl rfl rfl (po_neq_mapN Tryz.underlying137 rfl) rfl (lp (bO rfl rfl rfl) rfl (aH ?_)))
 exact ⟨aL rfl (npE_sub rfl rfl rfl rfl rfl rfl rfl rfl), hs⟩
 refine aB (dM rfl rfl (lp (po_eqlF rfl rfl (by omega)) rfl (dM rfl rfl (lg rfl rfl rfl (aC rfl) rfl (lg rfl rfl rfl (aC rfl) rfl (lg rfl rfl rfl (po_sub rfl rfl (fV (c := i - 1) (by omega) (by omega))) rfl (lg rfl rfl rfl (aN rfl) rfl (lg rfl rfl rfl (po_fa0' fo_86_0 rfl) rfl (lg rfl rfl rfl (po_ia_arr ar_84 rfl rfl (by omega) (by omega)) rfl (lg rfl rfl rfl (aO rfl (bR k_5 (hN.at hs hM (i - 1) rfl (by omega)))) rfl (lg rfl rfl rfl (po_eqlF rfl rfl (by omega)) rfl (lp (bW rfl rfl rfl) rfl (dM rfl rfl ?_)))))))))))))
 refine aU rfl rfl rfl rfl (aU rfl rfl rfl rfl (lp (bW rfl rfl rfl) rfl (aH ?_)))
 exact ⟨aL rfl (npE_sub rfl rfl rfl rfl rfl rfl rfl rfl), hs⟩
 clear hs
 rintro ρ w ⟨hsub, hs⟩
 refine EW.weaken hsub (aY rfl rfl (aW (aB (dM rfl rfl (lp (bN rfl rfl (fV (c := i + 1) (by omega) (by omega))) rfl (dN rfl rfl (aH ?_)))))))
 by_cases he : i = b
 have hq := hI.miss hil hdot he (.inl rfl) hI.na
 rw [if_neg (fun h => by cases h.1)] at hq
 exact ⟨(i + 1, b, o, t, sv, na), npE_sub rfl rfl rfl rfl rfl rfl rfl rfl, ⟨SlX.close hX hs, hq⟩, by simp only; omega⟩
 exact ⟨(i + 1, b, o, t, sv, na), npE_sub rfl rfl rfl rfl rfl rfl rfl rfl, ⟨SlX.close hX hs, hI.skip hil hdot (by omega)⟩, by simp only; omega⟩
 have hil : i = s.length := by omega
 subst hil
 refine eT (dP (dM rfl rfl (l_appB [0] el_23 (SlX.close hX hs) (fun _ => rfl) rfl rfl rfl (by decide) (by decide) (by omega) (by omega) rfl rfl (fun b178 v179 w hs => ?_))))
 skip
 refine dN rfl rfl (dN rfl rfl (aH (aV ⟨_, fX rfl rfl, ?_⟩)))
 exact ⟨_, _, .ok, rfl, rfl, .inl ⟨_, rfl, hI.last hz hlast, hI.keys, by simpa [Nat.add_assoc] using hs⟩⟩
set_option maxHeartbeats 4000000 in
theorem p_nameT (hG : Gl A V) (hs : Sl 5 1 ⟨w00, V0, V⟩ w ((bm, eM t) :: L) msg (pre.length + out.length) ((pre ++ out).map eA)) (hm : pre.length + out.length ≤ 549755813888) (hN : NameW ⟨w00, V0, V⟩ L bn p0 s) (hk : Keys t) :
  eC Tryz.prog 144 #[(.pointer (some ⟨bn, p0, none⟩)), msg, (.map (some bm)), .int .i64 (pre.length : Nat)] w fun v w' => ∃ (mv e : Value) (k : EK), v = .tuple #[mv, e] ∧ ErrV A e k ∧
   ((∃ w2 : Ink, k = .ok ∧ nameP true s ⟨out, t⟩ = some w2 ∧ Keys w2.tbl ∧ Sl 5 1 ⟨w00, V0, V⟩ w' ((bm, eM w2.tbl) :: L) mv (pre.length + w2.out.length) ((pre ++ w2.out).map eA)) ∨
    (k = .other ∧ nameP true s ⟨out, t⟩ = none ∧ ∃ t' : List (List UInt8 × Nat), St ⟨w00, V0, V⟩ w' ((bm, eM t') :: L))) := by
 have hs255 := hN.1
 have hM : ∀ {t : List (List UInt8 × Nat)} {X : List (Nat × Obj)}, ∀ x ∈ L, x ∈ ((bm, eM t) :: L) ++ X := fun x hx => List.mem_append_left _ (List.mem_cons_of_mem _ hx)
 obtain ⟨X, hX, hs⟩ := hs.open
 refine aT [_, _, _, _] Tryz.func144 Tryz.ntmps144 Tryz.results144 rfl rfl (dP (dN rfl rfl (dN rfl rfl (aH (dP (dM rfl rfl (dN rfl rfl (aH (aF (dP (dM rfl rfl (lp (aN rfl) rfl (lp (bD fo_86_1 rfl) rfl ?_)))))))))))))
 refine lp (aO rfl (bR k_5 (hN.len hs hM))) rfl (lp (cQ rfl rfl) rfl (aH (bH rfl (fun hc0 => ?_) (fun hc0 => ?_))))
 refine aF ?_
 replace hs := (SlX.close hX hs).st
 refine bV hs [0] mixed (fun w hs => dJ 0 rfl hs rfl (fun w hs => (aO rfl (bR k_57 (hG.ld hs.isIn (g := 7) rfl)))) rfl (dI 1 rfl (fun w => aD rfl) rfl rfl (dI 2 rfl (fun w => aD rfl) rfl rfl (bS (by decide +kernel) (aV ⟨_, fX rfl rfl, ?_⟩)))))
 exact ⟨_, _, .other, rfl, errv_g rfl (by decide) (by decide), .inr ⟨rfl, nameP_no (.inr (.inl (by omega))), t, hs⟩⟩
 · refine aW (aF (aF ?_))
   rcases Nat.eq_zero_or_pos s.length with hz | hz
   refine bV hs [3] mixed (fun w hs => dI 0 rfl (fun w => aC rfl) rfl rfl (dI 1 rfl (fun w => aN rfl) rfl rfl (dI 2 rfl (fun w => bD fo_86_1 rfl) rfl rfl (dJ 3 rfl hs rfl (fun w hs => (aO rfl (bR k_5 (hN.len hs hM)))) rfl (dI 4 rfl (fun w => (po_eqlT rfl rfl (by omega))) rfl rfl (dI 5 rfl (fun w => aC rfl) rfl rfl (a_gskip 6 rfl (by decide +kernel) rfl rfl rfl (fun h => absurd h (by decide +kernel)) rfl (a_gskip 7 rfl (by decide +kernel) rfl rfl rfl (fun h => absurd h (by decide +kernel)) rfl (a_gskip 8 rfl (by decide +kernel) rfl rfl rfl (fun h => absurd h (by decide +kernel)) rfl (a_gskip 9 rfl (by decide +kernel) rfl rfl rfl (fun h => absurd h (by decide +kernel)) rfl (a_gskip 10 rfl (by decide +kernel) rfl rfl rfl (fun h => absurd h (by decide +kernel)) rfl (a_gskip 11 rfl (by decide +kernel) rfl rfl rfl (fun h => absurd h (by decide +kernel)) rfl (a_gskip 12 rfl (by decide +kernel) rfl rfl rfl (fun h => absurd h (by decide +kernel)) rfl ?_)))))))))))))
   refine a_gskip 13 rfl (by decide +kernel) rfl rfl rfl (fun h => absurd h (by decide +kernel)) rfl (a_gskip 14 rfl (by decide +kernel) rfl rfl rfl (fun h => absurd h (by decide +kernel)) rfl (a_gskip 15 rfl (by decide +kernel) rfl rfl rfl (fun h => absurd h (by decide +kernel)) rfl (a_gskip 16 rfl (by decide +kernel) rfl rfl rfl (fun h => absurd h (by decide +kernel)) rfl (dI 17 rfl (fun w => bO rfl rfl rfl) rfl rfl (bS (by decide +kernel) (cO rfl rfl (aF ?_)))))))
   replace hs := (SlX.close hX hs).st
   refine bV hs [1] mixed (fun w hs => dI 0 rfl (fun w => aC rfl) rfl rfl (dJ 1 rfl hs rfl (fun w hs => (aO rfl (bR k_57 (hG.ld hs.isIn (g := 8) rfl)))) rfl (dI 2 rfl (fun w => aD rfl) rfl rfl (dI 3 rfl (fun w => aD rfl) rfl rfl (bS (by decide +kernel) (aV ⟨_, fX rfl rfl, ?_⟩))))))
   exact ⟨_, _, .other, rfl, errv_g rfl (by decide) (by decide), .inr ⟨rfl, nameP_no (.inl hz), t, hs⟩⟩
   · refine bV hs [3, 10, 15] mixed (fun w hs => dI 0 rfl (fun w => aC rfl) rfl rfl (dI 1 rfl (fun w => aN rfl) rfl rfl (dI 2 rfl (fun w => bD fo_86_1 rfl) rfl rfl (dJ 3 rfl hs rfl (fun w hs => (aO rfl (bR k_5 (hN.len hs hM)))) rfl (dI 4 rfl (fun w => (po_eqlF rfl rfl (by omega))) rfl rfl (dI 5 rfl (fun w => aC rfl) rfl rfl (dK 6 rfl rfl rfl rfl (fun h => absurd h (by decide +kernel)) (fun w _ => (aC rfl)) rfl (dK 7 rfl rfl rfl rfl (fun h => absurd h (by decide +kernel)) (fun w _ => (aC rfl)) rfl (dK 8 rfl rfl rfl rfl (fun h => absurd h (by decide +kernel)) (fun w _ => (aN rfl)) rfl (dK 9 rfl rfl rfl rfl (fun h => absurd h (by decide +kernel)) (fun w _ => (bD fo_86_1 rfl)) rfl (dK 10 rfl rfl rfl rfl (fun _ => hs) (fun w h0 => have hs := h0 (by decide +kernel); (aO rfl (bR k_5 (hN.len hs hM)))) rfl (dK 11 rfl rfl rfl rfl (fun h => absurd h (by decide +kernel)) (fun w _ => (po_sub rfl rfl (u8c (c := s.length - 1) (by omega) (by omega)))) rfl (dK 12 rfl rfl rfl rfl (fun h => absurd h (by decide +kernel)) (fun w _ => (aN rfl)) rfl ?_)))))))))))))
     refine dK 13 rfl rfl rfl rfl (fun h => absurd h (by decide +kernel)) (fun w _ => (po_fa0' fo_86_0 rfl)) rfl (dK 14 rfl rfl rfl rfl (fun h => absurd h (by decide +kernel)) (fun w _ => (po_ia_arr ar_84 rfl rfl (by omega) (by omega))) rfl (dK 15 rfl rfl rfl rfl (fun _ => hs) (fun w h0 => have hs := h0 (by decide +kernel); (aO rfl (bR k_5 (hN.at hs hM (s.length - 1) rfl (by omega))))) rfl (dK 16 rfl rfl rfl rfl (fun h => absurd h (by decide +kernel)) (fun w _ => (po_neq rfl rfl)) rfl (dI 17 rfl (fun w => bW rfl rfl rfl) rfl rfl (bS (by decide +kernel) (bH rfl (fun hc2 => ?_) (fun hc2 => ?_)))))))
     refine aF ?_
     replace hs := (SlX.close hX hs).st
     refine bV hs [1] mixed (fun w hs => dI 0 rfl (fun w => aC rfl) rfl rfl (dJ 1 rfl hs rfl (fun w hs => (aO rfl (bR k_57 (hG.ld hs.isIn (g := 8) rfl)))) rfl (dI 2 rfl (fun w => aD rfl) rfl rfl (dI 3 rfl (fun w => aD rfl) rfl rfl (bS (by decide +kernel) (aV ⟨_, fX rfl rfl, ?_⟩))))))
     exact ⟨_, _, .other, rfl, errv_g rfl (by decide) (by decide), .inr ⟨rfl, nameP_no (.inr (.inr (by omega))), t, hs⟩⟩
     · refine aW (aF (dG (fun ρ w => Sub (eH (eH (eH (eH (eH (eH emp 57 (.bool (decide (s = [46])))) 10 msg) 3 (.int .i64 (pre.length : Nat))) 2 (.map (some bm))) 1 msg) 0 (.pointer (some ⟨bn, p0, none⟩))) ρ ∧ St ⟨w00, V0, V⟩ w (((bm, eM t) :: L) ++ X)) ?_ ?_))
       rcases Classical.em (eB s 0 = 46) with h46 | h46
       have hg : true = true := rfl
       refine aB (dM rfl rfl (lp (aN rfl) rfl (lp (po_fa0' fo_86_0 rfl) rfl (lp (po_ia_arr ar_84 rfl rfl (by omega) (by omega)) rfl (lp (aO rfl (bR k_5 (hN.at hs hM 0 rfl (by omega)))) rfl (lp (po_eqlT rfl rfl (by omega)) rfl (dM rfl rfl (lg rfl rfl hg (aC rfl) rfl (lg rfl rfl hg (aN rfl) rfl (lg rfl rfl rfl (bD fo_86_1 rfl) rfl (lg rfl rfl rfl (aO rfl (bR k_5 (hN.len hs hM))) rfl (lg rfl rfl hg (bI rfl rfl) rfl (lp (bO rfl rfl rfl) rfl ?_)))))))))))))
       refine aH ?_
       have hd : decide (((s.length : Nat) : Int) = 1) = decide (s = [46]) := by apply decide_eq_decide.2; rw [is_dot]; omega
       exact ⟨aL rfl (aL rfl (aL rfl (aL rfl (aL rfl (aL (congrArg (fun q => some (Value.bool q)) hd) (bG _)))))), hs⟩
       have hg : false = !true := rfl
       refine aB (dM rfl rfl (lp (aN rfl) rfl (lp (po_fa0' fo_86_0 rfl) rfl (lp (po_ia_arr ar_84 rfl rfl (by omega) (by omega)) rfl (lp (aO rfl (bR k_5 (hN.at hs hM 0 rfl (by omega)))) rfl (lp (po_eqlF rfl rfl (by omega)) rfl (dM rfl rfl (aU rfl rfl hg rfl (aU rfl rfl hg rfl (aU rfl rfl hg rfl (aU rfl rfl hg rfl (aU rfl rfl hg rfl (lp (bW rfl rfl rfl) rfl ?_)))))))))))))
       refine aH ?_
       have hd : false = decide (s = [46]) := by symm; apply decide_eq_false; rw [is_dot]; omega
       exact ⟨aL rfl (aL rfl (aL rfl (aL rfl (aL rfl (aL (congrArg (fun q => some (Value.bool q)) hd) (bG _)))))), hs⟩
       · clear hs
         rintro ρ w ⟨hsub, hs⟩
         refine EW.weaken hsub (bH rfl (fun hc3 => ?_) (fun hc3 => ?_))
         refine dP (dM rfl rfl (l_appB [0] el_23 (SlX.close hX hs) (fun _ => rfl) rfl rfl rfl (by decide) (by decide) (by omega) (by omega) rfl rfl (fun b59 v60 w hs => ?_)))
         skip
         refine dN rfl rfl (dN rfl rfl (aH (aV ⟨_, fX rfl rfl, ?_⟩)))
         exact ⟨_, _, .ok, rfl, rfl, .inl ⟨_, rfl, nameP_dot hc3, hk, by simpa [Ink.put, Nat.add_assoc] using hs⟩⟩
         · refine aW (aF ?_)
           have hlast : eB s (s.length - 1) = 46 := by omega
           have hgo := nameP_go (short := true) (w := ⟨out, t⟩) hz (by omega) hlast hc3
           refine aB (dN rfl rfl (aH (aF (dP (dN rfl rfl (dN rfl rfl (aH (bQ (dC (fun g : Nat × Nat × List UInt8 × List (List UInt8 × Nat) × Value × List UInt8 => npE (.pointer (some ⟨bn, p0, none⟩)) (.map (some bm)) msg g.2.2.2.2.1 pre.length g.1 g.2.1 g.2.2.2.2.2) (fun g w => Sl 5 1 ⟨w00, V0, V⟩ w ((bm, eM g.2.2.2.1) :: L) g.2.2.2.2.1 (pre.length + g.2.2.1.length) ((pre ++ g.2.2.1).map eA) ∧ NInv true s out (nameP true s ⟨out, t⟩) g.1 g.2.1 g.2.2.1 g.2.2.2.1 g.2.2.2.2.2) (fun g => s.length - g.1) (0, 0, out, t, msg, []) (npE_sub rfl rfl rfl rfl rfl rfl rfl rfl) ⟨SlX.close hX hs, ⟨Nat.le_refl _, Nat.zero_le _, .inl rfl, fun j h1 h2 => by omega, hk, by simp, fun _ => hgo.symm, fun h => by omega, .inl rfl⟩⟩ ?_)))))))))
           clear hs hX
           rintro ⟨i, b, o, t, sv, na⟩ w ⟨hs, hI⟩
           simp only at hs hI ⊢
           have hop := hs.open
           clear hs
           obtain ⟨X, hX, hs⟩ := hop
           have hIb := hI.hb
           have hIi := hI.hi
           have hIl := hI.len
           refine aF (dP (dM rfl rfl (dM rfl rfl (lp (aN rfl) rfl (lp (bD fo_86_1 rfl) rfl (lp (aO rfl (bR k_5 (hN.len hs hM))) rfl (lp (bY Tryz.underlying5 Tryz.underlying3 rfl (fV (c := s.length) rfl (by omega))) rfl (lp (cY rfl rfl) rfl (aH (bH rfl (fun hc4 => ?_) (fun hc4 => ?_)))))))))))
           · have hil : i < s.length := by omega
             refine aW (aF (bQ (aF (dP (dM rfl rfl (dM rfl rfl (lp (aN rfl) rfl (lp (po_fa0' fo_86_0 rfl) rfl (lp (po_ia_arr ar_84 rfl rfl (by omega) (by omega)) rfl (lp (aO rfl (bR k_5 (hN.at hs hM i rfl hil))) rfl (lp (bI rfl rfl) rfl (aH (bH rfl (fun hc5 => ?_) (fun hc5 => ?_))))))))))))))
             have hdot : eB s i = 46 := by omega
             refine aF (dP (dM rfl rfl (dM rfl rfl (lp (po_sub rfl rfl (fV (c := i - b) (by omega) (by omega))) rfl (lp (po_geq rfl rfl) rfl (aH (bH rfl (fun hc6 => ?_) (fun hc6 => ?_))))))))
             refine aF ?_
             replace hs := (SlX.close hX hs).st
             refine bV hs [1] mixed (fun w hs => dI 0 rfl (fun w => aC rfl) rfl rfl (dJ 1 rfl hs rfl (fun w hs => (aO rfl (bR k_57 (hG.ld hs.isIn (g := 9) rfl)))) rfl (dI 2 rfl (fun w => aD rfl) rfl rfl (dI 3 rfl (fun w => aD rfl) rfl rfl (bS (by decide +kernel) (aV ⟨_, fX rfl rfl, ?_⟩))))))
             exact ⟨_, _, .other, rfl, errv_g rfl (by decide) (by decide), .inr ⟨rfl, hI.dotL hil hdot (by omega), t, hs⟩⟩
             refine aW (aF (dP (dM rfl rfl (dM rfl rfl (lp (po_sub rfl rfl (fV (c := i - b) (by omega) (by omega))) rfl (lp (bI rfl rfl) rfl (aH (bH rfl (fun hc7 => ?_) (fun hc7 => ?_)))))))))
             refine aF ?_
             replace hs := (SlX.close hX hs).st
             refine bV hs [1] mixed (fun w hs => dI 0 rfl (fun w => aC rfl) rfl rfl (dJ 1 rfl hs rfl (fun w hs => (aO rfl (bR k_57 (hG.ld hs.isIn (g := 10) rfl)))) rfl (dI 2 rfl (fun w => aD rfl) rfl rfl (dI 3 rfl (fun w => aD rfl) rfl rfl (bS (by decide +kernel) (aV ⟨_, fX rfl rfl, ?_⟩))))))
             exact ⟨_, _, .other, rfl, errv_g rfl (by decide) (by decide), .inr ⟨rfl, hI.dot0 hil hdot (by omega), t, hs⟩⟩
             refine aW (dP (dM rfl rfl (dM rfl rfl (dM rfl rfl (lp (po_sub rfl rfl (fV (c := i - b) (by omega) (by omega))) rfl (lp (bY Tryz.underlying3 Tryz.underlying5 rfl u8lo) rfl (l_appB [UInt8.ofNat (i - b)] el_23 (SlX.close hX hs) (fun _ => rfl) rfl rfl rfl (by decide) (by decide) (by omega) (by omega) rfl rfl (fun b94 v95 w hs => ?_))))))))
             skip
             refine dN rfl rfl (aH (aF (dP (dM rfl rfl (dN rfl rfl (aH (bQ (dC (fun g : Nat × Value => eH (npE (.pointer (some ⟨bn, p0, none⟩)) (.map (some bm)) msg g.2 pre.length i b na) 14 (.int .i64 g.1)) (fun g w => Sl 5 1 ⟨w00, V0, V⟩ w ((bm, eM t) :: L) g.2 (pre.length + (o.length + 1 + (g.1 - b))) ((pre ++ (o ++ UInt8.ofNat (i - b) :: seg s b (g.1 - b))).map eA) ∧ b ≤ g.1 ∧ g.1 ≤ i) (fun g => i - g.1) (b, v95) (aL rfl (npE_sub rfl rfl rfl rfl rfl rfl rfl rfl)) ⟨by simpa [seg, Nat.add_assoc] using hs, Nat.le_refl _, hIb⟩ ?_))))))))
             clear hs hX
             rintro ⟨j, sv2⟩ w ⟨hs, hj1, hj2⟩
             simp only at hs hj1 hj2 ⊢
             obtain ⟨X, hX, hs⟩ := hs.open
             refine aF (dP (dM rfl rfl (dM rfl rfl (lp (cY rfl rfl) rfl (aH (bH rfl (fun hc8 => ?_) (fun hc8 => ?_)))))))
             refine aW (aF (bQ (aB (dM rfl rfl (dM rfl rfl (dM rfl rfl (lp (aN rfl) rfl (lp (po_fa0' fo_86_0 rfl) rfl (lp (po_ia_arr ar_84 rfl rfl (by omega) (by omega)) rfl (lp (aO rfl (bR k_5 (hN.at hs hM j rfl (by omega)))) rfl (l_appB [s.getD j 0] el_23 (SlX.close hX hs) (fun _ => rfl) rfl rfl rfl (by decide) (by decide) (by omega) (by omega) rfl rfl (fun b109 v110 w hs => ?_))))))))))))
             skip
             refine dN rfl rfl (aH (aB (dM rfl rfl (lp (bN rfl rfl (fV (c := j + 1) (by omega) (by omega))) rfl (dN rfl rfl (aH ?_))))))
             have hse : seg s b (j + 1 - b) = seg s b (j - b) ++ [s.getD j 0] := by
              unfold seg
              rw [show j + 1 - b = (j - b) + 1 by omega, List.take_add_one, List.getElem?_drop, show b + (j - b) = j by omega, List.getElem?_eq_getElem (by omega)]
              simp [List.getD, List.getElem?_eq_getElem (show j < s.length by omega)]
             exact ⟨(j + 1, v110), aL rfl (npE_sub rfl rfl rfl rfl rfl rfl rfl rfl), ⟨by simp only [hse]; rw [show pre.length + (o.length + 1 + (j + 1 - b)) = pre.length + (o.length + 1 + (j - b)) + 1 by omega]; simpa [List.append_assoc] using hs, by omega, by omega⟩, by simp only; omega⟩
             refine eT (dP (dM rfl rfl (lp (bN rfl rfl (fV (c := i + 1) (by omega) (by omega))) rfl (dN rfl rfl (aH (eT (aB (dM rfl rfl (lp (bN rfl rfl (fV (c := i + 1) (by omega) (by omega))) rfl (dN rfl rfl (aH ?_)))))))))))
             obtain rfl : j = i := by omega
             exact ⟨(j + 1, j + 1, _, t, sv2, na), npE_sub rfl rfl rfl rfl rfl rfl rfl rfl, ⟨by have hq := hs; have hsl : (seg s b (j - b)).length = j - b := seg_len (by omega); simpa [hsl, Nat.add_assoc, Nat.add_comm, Nat.add_left_comm] using hq, hI.dot hil hdot (by omega) (by omega)⟩, by simp only; omega⟩
             · have hdot : eB s i ≠ 46 := by omega
               refine aW (dG (fun ρ w => Sub (eH (npE (.pointer (some ⟨bn, p0, none⟩)) (.map (some bm)) msg sv pre.length i b na) 128 (.bool (decide (i = b)))) ρ ∧ St ⟨w00, V0, V⟩ w (((bm, eM t) :: L) ++ X)) ?_ ?_)
               rcases (show i = 0 ∨ (0 < i ∧ eB s (i - 1) = 46) ∨ (0 < i ∧ eB s (i - 1) ≠ 46) by omega) with hz0 | ⟨hz0, hz1⟩ | ⟨hz0, hz1⟩
               refine aB (dM rfl rfl (lp (po_eqlT rfl rfl (by omega)) rfl (dM rfl rfl (aU rfl rfl rfl rfl (aU rfl rfl rfl rfl (aU rfl rfl rfl rfl (aU rfl rfl rfl rfl (aU rfl rfl rfl rfl (aU rfl rfl rfl rfl (aU rfl rfl rfl rfl (aU rfl rfl rfl rfl (lp (bO rfl rfl rfl) rfl (dM rfl rfl ?_)))))))))))))
               refine lg rfl rfl rfl (aC rfl) rfl (lg rfl rfl rfl (po_neq_mapS Tryz.underlying137 rfl) rfl (lp (bO rfl rfl rfl) rfl (aH ?_)))
               have hd : true = decide (i = b) := by symm; apply decide_eq_true; omega
               exact ⟨aL (congrArg (fun q => some (Value.bool q)) hd) (npE_sub rfl rfl rfl rfl rfl rfl rfl rfl), hs⟩
               refine aB (dM rfl rfl (lp (po_eqlF rfl rfl (by omega)) rfl (dM rfl rfl (lg rfl rfl rfl (aC rfl) rfl (lg rfl rfl rfl (aC rfl) rfl (lg rfl rfl rfl (po_sub rfl rfl (fV (c := i - 1) (by omega) (by omega))) rfl (lg rfl rfl rfl (aN rfl) rfl (lg rfl rfl rfl (po_fa0' fo_86_0 rfl) rfl (lg rfl rfl rfl (po_ia_arr ar_84 rfl rfl (by omega) (by omega)) rfl (lg rfl rfl rfl (aO rfl (bR k_5 (hN.at hs hM (i - 1) rfl (by omega)))) rfl (lg rfl rfl rfl (po_eqlT rfl rfl (by omega)) rfl (lp (bW rfl rfl rfl) rfl (dM rfl rfl ?_)))))))))))))
               refine lg rfl rfl rfl (aC rfl) rfl (lg rfl rfl rfl (po_neq_mapS Tryz.underlying137 rfl) rfl (lp (bO rfl rfl rfl) rfl (aH ?_)))
               have hd : true = decide (i = b) := by
                symm; apply decide_eq_true
                rcases Nat.lt_or_ge b i with h' | h'
                exact absurd hz1 (hI.no _ (by omega) (by omega))
                omega
               exact ⟨aL (congrArg (fun q => some (Value.bool q)) hd) (npE_sub rfl rfl rfl rfl rfl rfl rfl rfl), hs⟩
               refine aB (dM rfl rfl (lp (po_eqlF rfl rfl (by omega)) rfl (dM rfl rfl (lg rfl rfl rfl (aC rfl) rfl (lg rfl rfl rfl (aC rfl) rfl (lg rfl rfl rfl (po_sub rfl rfl (fV (c := i - 1) (by omega) (by omega))) rfl (lg rfl rfl rfl (aN rfl) rfl (lg rfl rfl rfl (po_fa0' fo_86_0 rfl) rfl (lg rfl rfl rfl (po_ia_arr ar_84 rfl rfl (by omega) (by omega)) rfl (lg rfl rfl rfl (aO rfl (bR k_5 (hN.at hs hM (i - 1) rfl (by omega)))) rfl (lg rfl rfl rfl (po_eqlF rfl rfl (by omega)) rfl (lp (bW rfl rfl rfl) rfl (dM rfl rfl ?_)))))))))))))
               refine aU rfl rfl rfl rfl (aU rfl rfl rfl rfl (lp (bW rfl rfl rfl) rfl (aH ?_)))
               have hd : false = decide (i = b) := by
                symm; apply decide_eq_false
                intro he
                rcases hI.head with h' | h'
                omega
                subst he; exact hz1 h'
               exact ⟨aL (congrArg (fun q => some (Value.bool q)) hd) (npE_sub rfl rfl rfl rfl rfl rfl rfl rfl), hs⟩
               · clear hs
                 rintro ρ w ⟨hsub, hs⟩
                 refine EW.weaken hsub (bH rfl (fun hc9 => ?_) (fun hc9 => ?_))
                 · refine aF (aF ?_)
                   rcases hfind : tblAt t (s.drop i) with _ | p
                   · refine bV hs [8, 10, 11] mixed (fun w hs => dI 0 rfl (fun w => aC rfl) rfl rfl (dI 1 rfl (fun w => aC rfl) rfl rfl (dI 2 rfl (fun w => aN rfl) rfl rfl (dI 3 rfl (fun w => po_fa0' fo_86_0 rfl) rfl rfl (dI 4 rfl (fun w => aC rfl) rfl rfl (dI 5 rfl (fun w => aC rfl) rfl rfl (dI 6 rfl (fun w => aN rfl) rfl rfl (dI 7 rfl (fun w => bD fo_86_1 rfl) rfl rfl (dJ 8 rfl hs rfl (fun w hs => (aO rfl (bR k_5 (hN.len hs hM)))) rfl (dI 9 rfl (fun w => (po_slice_arrLH i s.length (m := (s.drop i).length) ar_84 rfl rfl rfl rfl rfl (by omega) (by omega) (by omega) (by simp))) rfl rfl (dJ 10 rfl hs rfl (fun w hs => (po_bytesStr Tryz.underlying23 Tryz.underlying5 Tryz.underlying9 rfl (fun j u hu => hN.rest hs hM hu))) rfl (dJ 11 rfl hs rfl (fun w hs => (po_lookupM Tryz.underlying137 Tryz.underlying9 zero16 rfl rfl (hs.g 0 rfl) hfind)) rfl (dI 12 rfl (fun w => aC rfl) rfl rfl ?_)))))))))))))
                     refine dI 13 rfl (fun w => aI rfl rfl) rfl rfl (dI 14 rfl (fun w => aI rfl rfl) rfl rfl (dI 15 rfl (fun w => aD rfl) rfl rfl (dI 16 rfl (fun w => aD rfl) rfl rfl (bS (by decide +kernel) (dP (dM rfl rfl (aH (aY rfl rfl (aW (aF ?_))))))))))
                     obtain ⟨sa, scap, rfl⟩ := (SlX.close hX hs).size
                     refine aB (dM rfl rfl (lp (bC Tryz.underlying23 rfl) rfl (dM rfl rfl (lp (po_sub rfl rfl (fV (c := o.length) (by omega) (by omega))) rfl (dN rfl rfl (aH (dP (dM rfl rfl (lp (po_leq rfl rfl) rfl (aH (bH rfl (fun hc11 => ?_) (fun hc11 => ?_))))))))))))
                     · refine aF (dP (dM rfl rfl (lp (po_eql_str rfl rfl) rfl (aH (bH rfl (fun hc12 => ?_) (fun hc12 => ?_))))))
                       · have hna : na = [] := strV_inj (b := []) hc12
                         refine bV hs [6, 8] mixed (fun w hs => dI 0 rfl (fun w => aC rfl) rfl rfl (dI 1 rfl (fun w => aN rfl) rfl rfl (dI 2 rfl (fun w => po_fa0' fo_86_0 rfl) rfl rfl (dI 3 rfl (fun w => aC rfl) rfl rfl (dI 4 rfl (fun w => aN rfl) rfl rfl (dI 5 rfl (fun w => bD fo_86_1 rfl) rfl rfl (dJ 6 rfl hs rfl (fun w hs => (aO rfl (bR k_5 (hN.len hs hM)))) rfl (dI 7 rfl (fun w => (po_slice_arrH s.length ar_84 (by decide) rfl rfl rfl (by omega))) rfl rfl (dJ 8 rfl hs rfl (fun w hs => (po_bytesStr Tryz.underlying23 Tryz.underlying5 Tryz.underlying9 rfl (fun j u hu => hN.rest (i := 0) hs hM hu))) rfl (dI 9 rfl (fun w => aD rfl) rfl rfl (bS (by decide +kernel) ?_)))))))))))
                         try subst hna
                         refine aB (dM rfl rfl (dM rfl rfl (dM rfl rfl (lp (po_strRest i Tryz.underlying9 rfl rfl rfl (by omega)) rfl (dM rfl rfl (lp (bY Tryz.underlying3 Tryz.underlying22 rfl (u16c (c := o.length) rfl (by omega))) rfl (aJ (o_mapUpdate (k := 0) Tryz.underlying137 Tryz.underlying9 hs rfl rfl rfl rfl hfind rfl (fun w hs => aH (aB (dM rfl rfl (lp (bN rfl rfl (fV (c := i + 1) (by omega) (by omega))) rfl (dN rfl rfl (aH ?_))))))))))))))
                         have hq := hI.miss hil hdot hc9 (.inr (hc9 ▸ hfind)) (na' := s) (.inr rfl)
                         rw [if_pos ⟨rfl, by omega⟩, ← hc9] at hq
                         exact ⟨(i + 1, i, o, _, _, s), npE_sub rfl rfl rfl rfl rfl rfl rfl (congrArg (fun q : Nat => some (Value.int .i64 q)) hc9.symm), ⟨SlX.close (L := _ :: L) hX hs, hq⟩, by simp only; omega⟩
                       · have hna : na = s := by
                          rcases hI.na with h | h
                          subst h; exact absurd rfl hc12
                          exact h
                         refine aW ?_
                         try subst hna
                         refine aB (dM rfl rfl (dM rfl rfl (dM rfl rfl (lp (po_strRest i Tryz.underlying9 rfl rfl rfl (by omega)) rfl (dM rfl rfl (lp (bY Tryz.underlying3 Tryz.underlying22 rfl (u16c (c := o.length) rfl (by omega))) rfl (aJ (o_mapUpdate (k := 0) Tryz.underlying137 Tryz.underlying9 hs rfl rfl rfl rfl hfind rfl (fun w hs => aH (aB (dM rfl rfl (lp (bN rfl rfl (fV (c := i + 1) (by omega) (by omega))) rfl (dN rfl rfl (aH ?_))))))))))))))
                         have hq := hI.miss hil hdot hc9 (.inr (hc9 ▸ hfind)) (na' := na) (.inr rfl)
                         rw [if_pos ⟨rfl, by omega⟩, ← hc9] at hq
                         exact ⟨(i + 1, i, o, _, _, na), npE_sub rfl rfl rfl rfl rfl rfl rfl (congrArg (fun q : Nat => some (Value.int .i64 q)) hc9.symm), ⟨SlX.close (L := _ :: L) hX hs, hq⟩, by simp only; omega⟩
                     refine aW (aB (dM rfl rfl (lp (bN rfl rfl (fV (c := i + 1) (by omega) (by omega))) rfl (dN rfl rfl (aH ?_)))))
                     have hq := hI.miss hil hdot hc9 (.inr (hc9 ▸ hfind)) hI.na
                     rw [if_neg (fun h => by omega)] at hq
                     exact ⟨(i + 1, b, o, t, _, na), npE_sub rfl rfl rfl rfl rfl rfl rfl rfl, ⟨SlX.close hX hs, hq⟩, by simp only; omega⟩
                   refine bV hs [8, 10, 11] mixed (fun w hs => dI 0 rfl (fun w => aC rfl) rfl rfl (dI 1 rfl (fun w => aC rfl) rfl rfl (dI 2 rfl (fun w => aN rfl) rfl rfl (dI 3 rfl (fun w => po_fa0' fo_86_0 rfl) rfl rfl (dI 4 rfl (fun w => aC rfl) rfl rfl (dI 5 rfl (fun w => aC rfl) rfl rfl (dI 6 rfl (fun w => aN rfl) rfl rfl (dI 7 rfl (fun w => bD fo_86_1 rfl) rfl rfl (dJ 8 rfl hs rfl (fun w hs => (aO rfl (bR k_5 (hN.len hs hM)))) rfl (dI 9 rfl (fun w => (po_slice_arrLH i s.length (m := (s.drop i).length) ar_84 rfl rfl rfl rfl rfl (by omega) (by omega) (by omega) (by simp))) rfl rfl (dJ 10 rfl hs rfl (fun w hs => (po_bytesStr Tryz.underlying23 Tryz.underlying5 Tryz.underlying9 rfl (fun j u hu => hN.rest hs hM hu))) rfl (dJ 11 rfl hs rfl (fun w hs => (po_lookupH Tryz.underlying137 Tryz.underlying9 zero16 rfl rfl (hs.g 0 rfl) hfind)) rfl (dI 12 rfl (fun w => aC rfl) rfl rfl ?_)))))))))))))
                   refine dI 13 rfl (fun w => aI rfl rfl) rfl rfl (dI 14 rfl (fun w => aI rfl rfl) rfl rfl (dI 15 rfl (fun w => aD rfl) rfl rfl (dI 16 rfl (fun w => aD rfl) rfl rfl (bS (by decide +kernel) (dP (dM rfl rfl (aH (cO rfl rfl (aF ?_)))))))))
                   have hp : p < 16384 := (hI.keys _ (tblAt_mem hfind)).1
                   refine aB (dM rfl rfl (dM rfl rfl (lp (po_shr (c := (p / 256 : Nat)) rfl rfl (by decide) (u16sh (k := 8) (n := p))) rfl (lp (po_or rfl rfl (or192 (by omega))) rfl (lp (bY Tryz.underlying22 Tryz.underlying5 rfl (ptr_hi hp)) rfl (dM rfl rfl (lp (bY Tryz.underlying22 Tryz.underlying5 rfl ptr_lo) rfl (l_appB (be2 (49152 + p)) el_23 (SlX.close hX hs) (fun _ => rfl) rfl rfl rfl (by decide) (by decide) (by omega) (by omega) rfl rfl (fun b152 v153 w hs => ?_)))))))))
                   skip
                   refine dN rfl rfl (dN rfl rfl (aH (aV ⟨_, fX rfl rfl, ?_⟩)))
                   exact ⟨_, _, .ok, rfl, rfl, .inl ⟨_, rfl, by rw [← hI.go hc9, ← hc9]; exact goN_hit (drop_ne hil) hfind, hI.keys, by simpa [Ink.put, be2, Nat.add_assoc] using hs⟩⟩
                 refine aW (aB (dM rfl rfl (lp (bN rfl rfl (fV (c := i + 1) (by omega) (by omega))) rfl (dN rfl rfl (aH ?_)))))
                 exact ⟨(i + 1, b, o, t, sv, na), npE_sub rfl rfl rfl rfl rfl rfl rfl rfl, ⟨SlX.close hX hs, hI.skip hil hdot (by omega)⟩, by simp only; omega⟩
           have hil : i = s.length := by omega
           subst hil
           refine eT (dP (dM rfl rfl (l_appB [0] el_23 (SlX.close hX hs) (fun _ => rfl) rfl rfl rfl (by decide) (by decide) (by omega) (by omega) rfl rfl (fun b178 v179 w hs => ?_))))
           skip
           refine dN rfl rfl (dN rfl rfl (aH (aV ⟨_, fX rfl rfl, ?_⟩)))
           exact ⟨_, _, .ok, rfl, rfl, .inl ⟨_, rfl, hI.last hz hlast, hI.keys, by simpa [Nat.add_assoc] using hs⟩⟩
end
end Go.Proofs.YtgpfjlfkaoffeaaGreatDoor

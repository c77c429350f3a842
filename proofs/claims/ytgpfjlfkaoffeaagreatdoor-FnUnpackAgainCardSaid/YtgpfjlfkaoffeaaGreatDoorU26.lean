/- The reference: numbers, bytes, names passed over, kinds, the header. The reference: a message's header, a name. -/
import Derived.Test.YtgpfjlfkaoffeaaGreatDoorU25
set_option linter.all false
namespace Go.Proofs.YtgpfjlfkaoffeaaGreatDoor
open Go
def bK : Bool → EK
 | true => .ok
 | false => .other
theorem u16shr {n k : Nat} : (n : Int).fdiv (2 ^ (min ((k : Nat) : Int).toNat IntKind.u16.bits)) = ((n / 2 ^ (min k 16) : Nat) : Int) := by
 have e : IntKind.u16.bits = 16 := rfl
 rw [e, Int.toNat_natCast, Int.fdiv_eq_ediv_of_nonneg _ (by exact_mod_cast Nat.zero_le _)]
 norm_cast
theorem bit_shr (n k : Nat) (hk : k < 16) : decide ((((n / 2 ^ k) &&& 1 : Nat) : Int) = 1) = n.testBit k := by
 have : n.testBit k = decide ((n / 2 ^ k) % 2 = 1) := by
  rw [Nat.testBit_eq_decide_div_mod_eq]
 rw [this, Nat.and_one_is_mod]
 apply decide_eq_decide.2
 omega
section
variable {V : Vw} {w0 : World} {l : List UInt8} {mv : Value} {off : Int}
theorem c_two (hV : V.In w0) (hb : RB V mv l) (n : Nat) (hn : off = n) (h1 : n ≤ 1152921504606846976) (h2 : l.length ≤ 1152921504606846976) :
  eC Tryz.prog 174 #[mv, .int .i64 off] w0 fun v w' => St ⟨w0, V, V⟩ w' [] ∧ ∃ (x o : Nat) (ok : Bool), v = .tuple #[.int .u16 x, .int .i64 o, .bool ok] ∧ R16 l n x o (bK ok) := by
 subst hn
 obtain ⟨a, cap, rfl, hcap, ha⟩ := hb.form
 have hs := St.start hV
 refine aT [_, _] Tryz.func174 Tryz.ntmps174 Tryz.results174 rfl rfl (dP (dN rfl rfl (dN rfl rfl (dN rfl rfl (aH (aF (aF ?_)))))))
 have hg : decide ((n : Int) < 0) = false := decide_eq_false (by omega)
 refine aB (dM rfl rfl (lp (cY rfl rfl) rfl (dM rfl rfl (lg rfl rfl hg (aC rfl) rfl (lg rfl rfl hg (bN rfl rfl (i64w (by omega))) rfl (lg rfl rfl hg (aC rfl) rfl (lg rfl rfl hg (bC Tryz.underlying23 rfl) rfl (lg rfl rfl hg (cQ rfl rfl) rfl (lp (bW rfl (by assumption) rfl) rfl (aH (bH rfl (fun hc0 => ?_) (fun hc0 => ?_))))))))))))
 refine dP (dM rfl rfl (dN rfl rfl (dN rfl rfl (dN rfl rfl (aH (aV ⟨_, res3 rfl rfl rfl, ?_⟩))))))
 exact ⟨hs, 0, n, false, rfl, .inr ⟨rfl, by unfold rd16; rw [if_neg (by omega)], rfl, rfl⟩⟩
 obtain ⟨b, p, rfl, hc⟩ := ha (by omega)
 refine aW (aF (bV hs [3, 10] mixed (fun w hs => dI 0 rfl (fun w => aC rfl) rfl rfl (dI 1 rfl (fun w => aC rfl) rfl rfl (dI 2 rfl (fun w => (po_ia es_23 rfl rfl (by omega) (by omega))) rfl rfl (dJ 3 rfl hs rfl (fun w hs => (aO rfl (bR k_5 (ldb hs.isIn hc n (by omega) (by omega))))) rfl (dI 4 rfl (fun w => bY Tryz.underlying5 Tryz.underlying22 rfl rfl) rfl rfl (dI 5 rfl (fun w => (po_shl rfl rfl (by decide) rfl)) rfl rfl (dI 6 rfl (fun w => aC rfl) rfl rfl (dI 7 rfl (fun w => aC rfl) rfl rfl (dI 8 rfl (fun w => (bN rfl rfl (i64w (by omega)))) rfl rfl (dI 9 rfl (fun w => (po_ia es_23 rfl rfl (by omega) (by omega))) rfl rfl (dJ 10 rfl hs rfl (fun w hs => (aO rfl (bR k_5 (ldb hs.isIn hc (n + 1) (by omega) (by omega))))) rfl ?_)))))))))))))
 refine dI 11 rfl (fun w => bY Tryz.underlying5 Tryz.underlying22 rfl rfl) rfl rfl (dI 12 rfl (fun w => (po_or rfl rfl (two_eq (cU _ _) (cU _ _)))) rfl rfl (dI 13 rfl (fun w => aC rfl) rfl rfl (dI 14 rfl (fun w => (bN rfl rfl (i64w (by omega)))) rfl rfl (dI 15 rfl (fun w => aD rfl) rfl rfl (dI 16 rfl (fun w => aD rfl) rfl rfl (dI 17 rfl (fun w => aD rfl) rfl rfl (bS (by decide +kernel) (aV ⟨_, res3 rfl rfl rfl, ?_⟩))))))))
 exact ⟨hs, w16 l n, n + 2, true, rfl, .inl ⟨rfl, by unfold rd16; rw [if_pos (by omega)], rfl⟩⟩
theorem c_four (hV : V.In w0) (hb : RB V mv l) (n : Nat) (hn : off = n) (h1 : n ≤ 1152921504606846976) (h2 : l.length ≤ 1152921504606846976) :
  eC Tryz.prog 184 #[mv, .int .i64 off] w0 fun v w' => St ⟨w0, V, V⟩ w' [] ∧ ∃ (x o : Nat) (ok : Bool), v = .tuple #[.int .u32 x, .int .i64 o, .bool ok] ∧ R32 l n x o (bK ok) := by
 subst hn
 obtain ⟨a, cap, rfl, hcap, ha⟩ := hb.form
 have hs := St.start hV
 refine aT [_, _] Tryz.func184 Tryz.ntmps184 Tryz.results184 rfl rfl (dP (dN rfl rfl (dN rfl rfl (dN rfl rfl (aH (aF (aF ?_)))))))
 have hg : decide ((n : Int) < 0) = false := decide_eq_false (by omega)
 refine aB (dM rfl rfl (lp (cY rfl rfl) rfl (dM rfl rfl (lg rfl rfl hg (aC rfl) rfl (lg rfl rfl hg (bN rfl rfl (i64w (by omega))) rfl (lg rfl rfl hg (aC rfl) rfl (lg rfl rfl hg (bC Tryz.underlying23 rfl) rfl (lg rfl rfl hg (cQ rfl rfl) rfl (lp (bW rfl (by assumption) rfl) rfl (aH (bH rfl (fun hc0 => ?_) (fun hc0 => ?_))))))))))))
 refine dP (dM rfl rfl (dN rfl rfl (dN rfl rfl (dN rfl rfl (aH (aV ⟨_, res3 rfl rfl rfl, ?_⟩))))))
 exact ⟨hs, 0, n, false, rfl, .inr ⟨rfl, by unfold rd32; rw [if_neg (by omega)], rfl, rfl⟩⟩
 obtain ⟨b, p, rfl, hc⟩ := ha (by omega)
 refine aW (aF (bV hs [3, 10, 18, 26] mixed (fun w hs => dI 0 rfl (fun w => aC rfl) rfl rfl (dI 1 rfl (fun w => aC rfl) rfl rfl (dI 2 rfl (fun w => (po_ia es_23 rfl rfl (by omega) (by omega))) rfl rfl (dJ 3 rfl hs rfl (fun w hs => (aO rfl (bR k_5 (ldb hs.isIn hc n (by omega) (by omega))))) rfl (dI 4 rfl (fun w => bY Tryz.underlying5 Tryz.underlying27 rfl rfl) rfl rfl (dI 5 rfl (fun w => (po_shl rfl rfl (by decide) rfl)) rfl rfl (dI 6 rfl (fun w => aC rfl) rfl rfl (dI 7 rfl (fun w => aC rfl) rfl rfl (dI 8 rfl (fun w => (bN rfl rfl (i64w (by omega)))) rfl rfl (dI 9 rfl (fun w => (po_ia es_23 rfl rfl (by omega) (by omega))) rfl rfl (dJ 10 rfl hs rfl (fun w hs => (aO rfl (bR k_5 (ldb hs.isIn hc (n + 1) (by omega) (by omega))))) rfl ?_)))))))))))))
 refine dI 11 rfl (fun w => bY Tryz.underlying5 Tryz.underlying27 rfl rfl) rfl rfl (dI 12 rfl (fun w => (po_shl rfl rfl (by decide) rfl)) rfl rfl (dI 13 rfl (fun w => po_or rfl rfl rfl) rfl rfl (dI 14 rfl (fun w => aC rfl) rfl rfl (dI 15 rfl (fun w => aC rfl) rfl rfl (dI 16 rfl (fun w => (bN rfl rfl (i64w (by omega)))) rfl rfl (dI 17 rfl (fun w => (po_ia es_23 rfl rfl (by omega) (by omega))) rfl rfl (dJ 18 rfl hs rfl (fun w hs => (aO rfl (bR k_5 (ldb hs.isIn hc (n + 2) (by omega) (by omega))))) rfl (dI 19 rfl (fun w => bY Tryz.underlying5 Tryz.underlying27 rfl rfl) rfl rfl (dI 20 rfl (fun w => (po_shl rfl rfl (by decide) rfl)) rfl rfl (dI 21 rfl (fun w => po_or rfl rfl rfl) rfl rfl (dI 22 rfl (fun w => aC rfl) rfl rfl (dI 23 rfl (fun w => aC rfl) rfl rfl (dI 24 rfl (fun w => (bN rfl rfl (i64w (by omega)))) rfl rfl ?_)))))))))))))
 refine dI 25 rfl (fun w => (po_ia es_23 rfl rfl (by omega) (by omega))) rfl rfl (dJ 26 rfl hs rfl (fun w hs => (aO rfl (bR k_5 (ldb hs.isIn hc (n + 3) (by omega) (by omega))))) rfl (dI 27 rfl (fun w => bY Tryz.underlying5 Tryz.underlying27 rfl rfl) rfl rfl (dI 28 rfl (fun w => (po_or rfl rfl (four_eq (cU _ _) (cU _ _) (cU _ _) (cU _ _)))) rfl rfl (dI 29 rfl (fun w => aC rfl) rfl rfl (dI 30 rfl (fun w => (bN rfl rfl (i64w (by omega)))) rfl rfl (dI 31 rfl (fun w => aD rfl) rfl rfl (dI 32 rfl (fun w => aD rfl) rfl rfl (dI 33 rfl (fun w => aD rfl) rfl rfl (bS (by decide +kernel) (aV ⟨_, res3 rfl rfl rfl, ?_⟩))))))))))
 exact ⟨hs, w32 l n, n + 4, true, rfl, .inl ⟨rfl, by unfold rd32; rw [if_pos (by omega)], rfl⟩⟩
def RBy (V : Vw) (l : List UInt8) (n c : Nat) (bv : Value) (ok : Bool) : Prop := (ok = true ∧ n + c ≤ l.length ∧ RB V bv (seg l n c)) ∨ (ok = false ∧ l.length < n + c ∧ bv = .slice none 0 0)
theorem RBy.oneCell {V : Vw} {l : List UInt8} {n c : Nat} {bv : Value} {ok : Bool} (h : RBy V l n c bv ok) : bv.oneCell' = true := by
 rcases h with ⟨_, _, h⟩ | ⟨_, _, rfl⟩
 exact h.oneCell
 rfl
theorem c_bytesAt (hV : V.In w0) (hb : RB V mv l) (n c : Nat) {cv : Int} (hn : off = n) (hcv : cv = c) (h1 : n ≤ 1152921504606846976) (hc1 : c ≤ 4294967296) (h2 : l.length ≤ 4294967296) :
  eC Tryz.prog 181 #[mv, .int .i64 off, .int .i64 cv] w0 fun v w' => ∃ (V' : Vw) (bv : Value) (ok : Bool), v = .tuple #[bv, .bool ok] ∧ St ⟨w0, V, V'⟩ w' [] ∧ RBy V' l n c bv ok := by
 subst hn hcv
 obtain ⟨a, cap, rfl, hcap, ha⟩ := hb.form
 have hs := St.start hV
 refine aT [_, _, _] Tryz.func181 Tryz.ntmps181 Tryz.results181 rfl rfl (dP (dN rfl rfl (dN rfl rfl (aH (aF (aF ?_))))))
 have hg : decide ((n : Int) < 0) = false := decide_eq_false (by omega)
 refine aB (dM rfl rfl (lp (cY rfl rfl) rfl (dM rfl rfl (lg rfl rfl hg (aC rfl) rfl (lg rfl rfl hg (aC rfl) rfl (lg rfl rfl hg (bN rfl rfl (i64w (by omega))) rfl (lg rfl rfl hg (aC rfl) rfl (lg rfl rfl hg (bC Tryz.underlying23 rfl) rfl (lg rfl rfl hg (cQ rfl rfl) rfl (lp (bW rfl (by assumption) rfl) rfl (aH (bH rfl (fun hc0 => ?_) (fun hc0 => ?_)))))))))))))
 refine dP (dN rfl rfl (dN rfl rfl (aH (aV ⟨_, fX rfl rfl, ?_⟩))))
 exact ⟨V, _, false, rfl, hs, .inr ⟨rfl, by omega, rfl⟩⟩
 refine aW (aF ?_)
 have hfit : n + c ≤ l.length := by omega
 have hseg : (seg l n c).length = c := seg_len hfit
 refine aB (aJ (fP es_23 hs rfl (fun b18 w hb18 he18 hs => dM rfl rfl (dM rfl rfl (dM rfl rfl (dM rfl rfl (lp (bN rfl rfl (fV (c := n + c) (by omega) (by omega))) rfl (lp (po_partR n c es_23 rfl rfl rfl rfl rfl (by omega)) rfl (aJ (fA (k := (seg l n c).length) (news := (seg l n c).map eA) el_23 (.inr ⟨_, Tryz.underlying23⟩) (Sl.empty hs hb18) rfl rfl ((hb.part hfit).src hs.isIn) (dH _) (by omega) (by omega) rfl (fun v25 w hs => ?_)))))))))))
 obtain ⟨V', hle', hsv, hs⟩ := hs.give
 have hRB' : RB V' v25 (seg l n c) := by unfold RB; simpa using hsv
 refine dN rfl rfl (dN rfl rfl (aH (aV ⟨_, fX rfl rfl, ?_⟩)))
 exact ⟨V', _, true, rfl, hs, .inl ⟨rfl, hfit, hRB'⟩⟩
theorem c_KindOf (hV : V.In w0) (t : Nat) {tv : Int} (ht : tv = t) : eC Tryz.prog 118 #[.int .u16 tv] w0 fun v w' => v = .int .i64 (eE t : Nat) ∧ St ⟨w0, V, V⟩ w' [] := by
 subst ht
 have hs := St.start hV
 refine aT [_] Tryz.func118 Tryz.ntmps118 Tryz.results118 rfl rfl (dP (dN rfl rfl (aH (aF (dP (dM rfl rfl (aH (bQ (dP (lp (bI rfl rfl) rfl (dN rfl rfl (aH (bH rfl (fun hc0 => ?_) (fun hc0 => ?_))))))))))))))
 refine dP (dN rfl rfl (aH (aV ⟨_, fW rfl, ?_⟩)))
 exact ⟨congrArg (fun q : Nat => Value.int .i64 q) (show 1 = eE t by unfold eE; rw [if_pos (by omega)]), hs⟩
 refine dP (lp (bI rfl rfl) rfl (dN rfl rfl (aH (bH rfl (fun hc1 => ?_) (fun hc1 => ?_)))))
 refine dP (dN rfl rfl (aH (aV ⟨_, fW rfl, ?_⟩)))
 exact ⟨congrArg (fun q : Nat => Value.int .i64 q) (show 2 = eE t by unfold eE; rw [if_neg (by omega), if_pos (by omega)]), hs⟩
 refine dP (lp (bI rfl rfl) rfl (dN rfl rfl (aH (bH rfl (fun hc2 => ?_) (fun hc2 => ?_)))))
 refine dP (dN rfl rfl (aH (aV ⟨_, fW rfl, ?_⟩)))
 exact ⟨congrArg (fun q : Nat => Value.int .i64 q) (show 3 = eE t by unfold eE; rw [if_neg (by omega), if_neg (by omega), if_pos (by omega)]), hs⟩
 refine dP (lp (bI rfl rfl) rfl (dN rfl rfl (aH (bH rfl (fun hc3 => ?_) (fun hc3 => ?_)))))
 refine dP (dN rfl rfl (aH (aV ⟨_, fW rfl, ?_⟩)))
 exact ⟨congrArg (fun q : Nat => Value.int .i64 q) (show 4 = eE t by unfold eE; rw [if_neg (by omega), if_neg (by omega), if_neg (by omega), if_pos (by omega)]), hs⟩
 refine dP (lp (bI rfl rfl) rfl (dN rfl rfl (aH (bH rfl (fun hc4 => ?_) (fun hc4 => ?_)))))
 refine dP (dN rfl rfl (aH (aV ⟨_, fW rfl, ?_⟩)))
 exact ⟨congrArg (fun q : Nat => Value.int .i64 q) (show 5 = eE t by unfold eE; rw [if_neg (by omega), if_neg (by omega), if_neg (by omega), if_neg (by omega), if_pos (by omega)]), hs⟩
 refine dP (lp (bI rfl rfl) rfl (dN rfl rfl (aH (bH rfl (fun hc5 => ?_) (fun hc5 => ?_)))))
 refine dP (dN rfl rfl (aH (aV ⟨_, fW rfl, ?_⟩)))
 exact ⟨congrArg (fun q : Nat => Value.int .i64 q) (show 6 = eE t by unfold eE; rw [if_neg (by omega), if_neg (by omega), if_neg (by omega), if_neg (by omega), if_neg (by omega), if_pos (by omega)]), hs⟩
 refine dP (lp (bI rfl rfl) rfl (dN rfl rfl (aH (bH rfl (fun hc6 => ?_) (fun hc6 => ?_)))))
 refine dP (dN rfl rfl (aH (aV ⟨_, fW rfl, ?_⟩)))
 exact ⟨congrArg (fun q : Nat => Value.int .i64 q) (show 7 = eE t by unfold eE; rw [if_neg (by omega), if_neg (by omega), if_neg (by omega), if_neg (by omega), if_neg (by omega), if_neg (by omega), if_pos (by omega)]), hs⟩
 refine dP (lp (bI rfl rfl) rfl (dN rfl rfl (aH (bH rfl (fun hc7 => ?_) (fun hc7 => ?_)))))
 refine dP (dN rfl rfl (aH (aV ⟨_, fW rfl, ?_⟩)))
 exact ⟨congrArg (fun q : Nat => Value.int .i64 q) (show 8 = eE t by unfold eE; rw [if_neg (by omega), if_neg (by omega), if_neg (by omega), if_neg (by omega), if_neg (by omega), if_neg (by omega), if_neg (by omega), if_pos (by omega)]), hs⟩
 refine dP (lp (bI rfl rfl) rfl (dN rfl rfl (aH (bH rfl (fun hc8 => ?_) (fun hc8 => ?_)))))
 refine dP (dN rfl rfl (aH (aV ⟨_, fW rfl, ?_⟩)))
 exact ⟨congrArg (fun q : Nat => Value.int .i64 q) (show 9 = eE t by unfold eE; rw [if_neg (by omega), if_neg (by omega), if_neg (by omega), if_neg (by omega), if_neg (by omega), if_neg (by omega), if_neg (by omega), if_neg (by omega), if_pos (by omega)]), hs⟩
 refine dP (lp (bI rfl rfl) rfl (dN rfl rfl (aH (bH rfl (fun hc9 => ?_) (fun hc9 => ?_)))))
 refine dP (dN rfl rfl (aH (aV ⟨_, fW rfl, ?_⟩)))
 exact ⟨congrArg (fun q : Nat => Value.int .i64 q) (show 10 = eE t by unfold eE; rw [if_neg (by omega), if_neg (by omega), if_neg (by omega), if_neg (by omega), if_neg (by omega), if_neg (by omega), if_neg (by omega), if_neg (by omega), if_neg (by omega), if_pos (by omega)]), hs⟩
 refine dP (lp (bI rfl rfl) rfl (dN rfl rfl (aH (bH rfl (fun hc10 => ?_) (fun hc10 => ?_)))))
 refine dP (dN rfl rfl (aH (aV ⟨_, fW rfl, ?_⟩)))
 exact ⟨congrArg (fun q : Nat => Value.int .i64 q) (show 11 = eE t by unfold eE; rw [if_neg (by omega), if_neg (by omega), if_neg (by omega), if_neg (by omega), if_neg (by omega), if_neg (by omega), if_neg (by omega), if_neg (by omega), if_neg (by omega), if_neg (by omega), if_pos (by omega)]), hs⟩
 refine dP (lp (bI rfl rfl) rfl (dN rfl rfl (aH (bH rfl (fun hc11 => ?_) (fun hc11 => ?_)))))
 refine dP (dN rfl rfl (aH (aV ⟨_, fW rfl, ?_⟩)))
 exact ⟨congrArg (fun q : Nat => Value.int .i64 q) (show 12 = eE t by unfold eE; rw [if_neg (by omega), if_neg (by omega), if_neg (by omega), if_neg (by omega), if_neg (by omega), if_neg (by omega), if_neg (by omega), if_neg (by omega), if_neg (by omega), if_neg (by omega), if_neg (by omega), if_pos (by omega)]), hs⟩
 refine aW (dP (dN rfl rfl (aH (aV ⟨_, fW rfl, ?_⟩))))
 exact ⟨congrArg (fun q : Nat => Value.int .i64 q) (show 13 = eE t by unfold eE; rw [if_neg (by omega), if_neg (by omega), if_neg (by omega), if_neg (by omega), if_neg (by omega), if_neg (by omega), if_neg (by omega), if_neg (by omega), if_neg (by omega), if_neg (by omega), if_neg (by omega), if_neg (by omega)]), hs⟩
set_option maxHeartbeats 2000000 in
theorem c_swhole (hV : V.In w0) {x h : fY} {vd vt vp vd' vt' vp' : Value} (hd : vd.oneCell' = true) (ht : vt.oneCell' = true) (hp : vp.oneCell' = true) :
  eC Tryz.prog 180 #[.agg (eY x vd vt vp).toArray, .agg (eY h vd' vt' vp').toArray] w0 fun v w' => v = .agg (eY (whole x h) vd vt vp).toArray ∧ St ⟨w0, V, V⟩ w' [] := by
 have hs := St.start hV
 have hfl : Flat (eY (whole x h) vd vt vp) := aG (by unfold eY; simp only [List.all_cons, List.all_nil, hd, ht, hp]; rfl)
 refine aT [_, _] Tryz.func180 Tryz.ntmps180 Tryz.results180 rfl rfl (dP (aJ (cR hs rfl rfl rfl (fun b2 w hb2 hbe2 hs => aJ (cR hs rfl rfl rfl (fun b3 w hb3 hbe3 hs => aJ (aX hs z_30 rfl (fun b4 w hb4 he4 hs => aH (aF (e_draw (fun w2 => w2.heap[b3]? = some (.cells (eY h vd' vt' vp').toArray 30 (0, 0))) [1, 3, 5, 7, 9] mixed (fun w hw => ?_)))))))))))
 replace hs := hw.st hs
 refine dI 0 rfl (fun w => aR fo_30_0 rfl) rfl rfl (dJ 1 rfl (hs.g 1 rfl) rfl (fun w hf => (aO rfl (aQ k_9 hf rfl))) rfl (dI 2 rfl (fun w => aR fo_30_1 rfl) rfl rfl (dJ 3 rfl (hs.g 1 rfl) rfl (fun w hf => (aO rfl (aQ eS hf rfl))) rfl (dI 4 rfl (fun w => aR fo_30_2 rfl) rfl rfl (dJ 5 rfl (hs.g 1 rfl) rfl (fun w hf => (aO rfl (aQ eS hf rfl))) rfl (dI 6 rfl (fun w => aR fo_30_3 rfl) rfl rfl (dJ 7 rfl (hs.g 1 rfl) rfl (fun w hf => (aO rfl (aQ cB hf rfl))) rfl (dI 8 rfl (fun w => aR fo_30_4 rfl) rfl rfl (dJ 9 rfl (hs.g 1 rfl) rfl (fun w hf => (aO rfl (aQ eS hf rfl))) rfl (dI 10 rfl (fun w => aR fo_30_0 rfl) rfl rfl (dL 11 rfl (dQ 2 hs k_9 rfl rfl rfl rfl rfl rfl rfl (fun w hs => ⟨fun _ => hs.g 1 rfl, dI 12 rfl (fun w => aR fo_30_1 rfl) rfl rfl ?_⟩)))))))))))))
 refine dL 13 rfl (dQ 2 hs eS rfl rfl rfl rfl rfl rfl rfl (fun w hs => ⟨fun _ => hs.g 1 rfl, dI 14 rfl (fun w => aR fo_30_2 rfl) rfl rfl (dL 15 rfl (dQ 2 hs eS rfl rfl rfl rfl rfl rfl rfl (fun w hs => ⟨fun _ => hs.g 1 rfl, dI 16 rfl (fun w => aR fo_30_3 rfl) rfl rfl (dL 17 rfl (dQ 2 hs cB rfl rfl rfl rfl rfl rfl rfl (fun w hs => ⟨fun _ => hs.g 1 rfl, dI 18 rfl (fun w => aR fo_30_4 rfl) rfl rfl (dL 19 rfl (dQ 2 hs eS rfl rfl rfl rfl rfl rfl rfl (fun w hs => ⟨fun h => absurd h (by decide +kernel), bS (by decide +kernel) (dP (lp (aO rfl (aP eJ (hs.g 2 rfl) rfl)) rfl ?_))⟩)))⟩)))⟩)))⟩))
 refine aJ (dR 0 hs eJ rfl rfl rfl rfl rfl hfl rfl (fun w hs => aH (aV ⟨_, fW ⟨_, rfl, aP eJ (hs.g 0 rfl) rfl⟩, ?_⟩)))
 exact ⟨rfl, ((hs.drop hb4).drop hb3).drop hb2⟩
theorem c_headBit (hV : V.In w0) {bb bits : Nat} {E : TypeId} (hbb : w0.heap[bb]? = some (.cells [Value.int .u16 bits].toArray E (0, 0))) (hlt : bits < 65536) (k : Nat) (hk : k < 16) :
  eC Tryz.prog 175 #[.int .i64 (k : Nat), .pointer (some ⟨bb, 0, none⟩)] w0 fun v w' => v = .bool (bits.testBit k) ∧ St ⟨w0, V, V⟩ w' [] := by
 have hs := St.start hV
 refine aT [_, _] Tryz.func175 Tryz.ntmps175 Tryz.results175 rfl rfl (dP (dN rfl rfl (aH (dP (lp (aO rfl (aQ (l := [Value.int .u16 bits]) eS hbb rfl)) rfl (dM rfl rfl (lp (po_shr rfl rfl (by omega) u16shr) rfl (lp (po_and rfl rfl (u16and (b := 1) (Nat.lt_of_le_of_lt (Nat.div_le_self _ _) hlt) (by decide))) rfl (lp (bI rfl rfl) rfl (dN rfl rfl (aH (aV ⟨_, fW rfl, ?_⟩))))))))))))
 refine ⟨?_, hs⟩
 rw [Nat.min_eq_left (by omega), bit_shr _ _ hk]
end
end Go.Proofs.YtgpfjlfkaoffeaaGreatDoor
namespace Go.Proofs.YtgpfjlfkaoffeaaGreatDoor
open Go
theorem R16.sure {l : List UInt8} {n x o : Nat} {ok : Bool} (h : R16 l n x o (bK ok)) (hl : n + 2 ≤ l.length) : ok = true ∧ x = w16 l n ∧ o = n + 2 := by
 rcases h with ⟨h1, h2, h3⟩ | ⟨h1, h2, _⟩
 exact ⟨(by cases ok <;> first | rfl | cases h1), (rd16_some h2).1, h3⟩
 unfold rd16 at h2
 rw [if_pos hl] at h2
 cases h2
def cntC (l : List UInt8) (k : Nat) : List Value :=
 [.int .i64 ((if 0 < k then count l 1 else 0 : Nat)), .int .i64 ((if 1 < k then count l 2 else 0 : Nat)), .int .i64 ((if 2 < k then count l 3 else 0 : Nat)), .int .i64 ((if 3 < k then count l 4 else 0 : Nat))]
theorem cnt_set {l : List UInt8} {k : Nat} (h : k < 4) : (cntC l k).set k (.int .i64 (count l (k + 1) : Nat)) = cntC l (k + 1) := by
 rcases (by omega : k = 0 ∨ k = 1 ∨ k = 2 ∨ k = 3) with rfl | rfl | rfl | rfl <;> rfl
theorem cntC_flat (l : List UInt8) (k : Nat) : Flat (cntC l k) := aG rfl
section
variable {V : Vw} {w0 : World} {l : List UInt8} {mv : Value} {off : Int}
def SHead (l : List UInt8) (hcs kcs : List Value) (ok : Bool) : Prop := (ok = true ∧ 12 ≤ l.length ∧ hcs = headC (w16 l 0) (w16 l 2) ∧ kcs = cntC l 4) ∨ (ok = false ∧ l.length < 12 ∧ hcs = headC 0 0 ∧ kcs = cntC l 0)
set_option maxHeartbeats 1000000 in
theorem c_Head (hV : V.In w0) (hb : RB V mv l) (h2 : l.length ≤ 1152921504606846976) :
  eC Tryz.prog 120 #[mv] w0 fun v w' => ∃ (hcs kcs : List Value) (ok : Bool), v = .tuple #[.agg hcs.toArray, .agg kcs.toArray, .bool ok] ∧ St ⟨w0, V, V⟩ w' [] ∧ SHead l hcs kcs ok := by
 obtain ⟨a, cap, rfl, hcap, ha⟩ := hb.form
 have hs := St.start hV
 refine aT [_] Tryz.func120 Tryz.ntmps120 Tryz.results120 rfl rfl (dP (aJ (aX hs z_33 rfl (fun b2 w hb2 he2 hs => aJ (aX hs z_123 rfl (fun b3 w hb3 he3 hs => dN rfl rfl (aH (dP (lp (bM (vs := []) (ps := []) rfl bz_123) rfl (aJ (aX hs z_123 rfl (fun b5 w hb5 he5 hs => aJ (dR 0 hs k_123 rfl rfl rfl (by simp) (by simp) (aG (by decide +kernel)) rfl (fun w hs => aH (aF (dP (dM rfl rfl ?_)))))))))))))))))
 refine lp (bC Tryz.underlying23 rfl) rfl (lp (cY rfl rfl) rfl (aH (bH rfl (fun hc0 => ?_) (fun hc0 => ?_))))
 refine aF (bV hs [1] mixed (fun w hs => dI 0 rfl (fun w => (bM (vs := []) (ps := []) rfl bz_33)) rfl rfl (dJ 1 rfl hs rfl (fun w hs => (aO rfl (aP k_123 (hs.g 0 rfl) (by simp)))) rfl (dL 2 rfl (dR 2 hs bZ rfl rfl rfl (by simp) (by simp) (aG (by decide +kernel)) rfl (fun w hs => ⟨fun _ => hs, dL 3 rfl (dR 1 hs k_123 rfl rfl rfl (by simp) (by simp) (aG (by decide +kernel)) rfl (fun w hs => ⟨fun h => absurd h (by decide +kernel), dI 4 rfl (fun w => aD rfl) rfl rfl (bS (by decide +kernel) (aV ⟨_, res3g ⟨_, rfl, aP bZ (hs.g 2 rfl) rfl⟩ ⟨_, rfl, aP k_123 (hs.g 1 rfl) rfl⟩ rfl, ?_⟩))⟩))⟩))))))
 exact ⟨_, _, false, rfl, ((hs.drop hb5).drop hb3).drop hb2, .inr ⟨rfl, by omega, rfl, rfl⟩⟩
 refine aW (dP (dM rfl rfl (aZ ok_174 rfl rfl (c_two hs.isIn hb 0 rfl (by omega) h2) rfl (fun v25 w HF => ?_))))
 obtain ⟨hc, x0, o0, ok0, rfl, hr⟩ := HF
 replace hs := hs.frame hc
 obtain ⟨rfl, rfl, rfl⟩ := hr.sure (by omega)
 refine dM rfl rfl (dO rfl rfl rfl (dO rfl rfl rfl (dO rfl rfl rfl (dN rfl rfl (dN rfl rfl (dN rfl rfl (aH (dP (dM rfl rfl (aZ ok_174 rfl rfl (c_two hs.isIn hb 2 rfl (by omega) h2) rfl (fun v31 w HF => ?_)))))))))))
 obtain ⟨hc, x2, o2, ok2, rfl, hr⟩ := HF
 replace hs := hs.frame hc
 obtain ⟨rfl, rfl, rfl⟩ := hr.sure (by omega)
 have hbl := w16_lt l 2
 refine dM rfl rfl (dO rfl rfl rfl (dO rfl rfl rfl (dO rfl rfl rfl (aJ (aX hs z_22 rfl (fun b9 w hb9 he9 hs => aJ (dQ 0 hs eS rfl rfl rfl rfl rfl rfl rfl (fun w hs => dN rfl rfl (dN rfl rfl (aH (aF (dP (dM rfl rfl (aH (bQ ?_)))))))))))))))
 refine dC (fun k : Nat => eH (eH (eH (eH (eH (eH (eH emp 35 (.int .i64 k)) 9 (.pointer (some ⟨b9, 0, none⟩))) 6 (.int .u16 (w16 l 0))) 5 (.pointer (some ⟨b5, 0, none⟩))) 3 (.pointer (some ⟨b3, 0, none⟩))) 2 (.pointer (some ⟨b2, 0, none⟩))) 0 (.slice a l.length cap)) (fun k w' => St ⟨w0, V, V⟩ w' [(b9, .cells [Value.int .u16 (w16 l 2)].toArray 22 (0, 0)), (b5, .cells (cntC l k).toArray 123 (0, 0)), (b3, .cells (cntC l 0).toArray 123 (0, 0)), (b2, .cells (headC 0 0).toArray 33 (0, 0))] ∧ k ≤ 4) (fun k => 4 - k) 0 (aL rfl (aL rfl (aL rfl (aL rfl (aL rfl (aL rfl (aL rfl (bG _)))))))) ⟨hs, by omega⟩ ?_
 clear hs
 rintro k w ⟨hs, hk⟩
 refine dP (lp (cY rfl rfl) rfl (aH (aF (bH rfl (fun hc1 => ?_) (fun hc1 => ?_)))))
 refine aW (aF (bQ (dP (dM rfl rfl (dN rfl rfl (aH (dP (dM rfl rfl (dM rfl rfl (lp (po_mul rfl rfl (i64w (by omega))) rfl (lp (bN rfl rfl (i64w (by omega))) rfl (aZ ok_174 rfl rfl (c_two hs.isIn hb (4 + 2 * k) (by omega) (by omega) h2) rfl (fun v43 w HF => ?_)))))))))))))
 obtain ⟨hc, x4, o4, ok4, rfl, hr⟩ := HF
 replace hs := hs.frame hc
 obtain ⟨rfl, rfl, rfl⟩ := hr.sure (by omega)
 have hwl := w16_lt l (4 + 2 * k)
 refine dM rfl rfl (dO rfl rfl rfl (dO rfl rfl rfl (dO rfl rfl rfl (dN rfl rfl (dN rfl rfl (dN rfl rfl (aH (aB (dM rfl rfl (dM rfl rfl (lp (bY Tryz.underlying22 Tryz.underlying3 rfl (fV (c := w16 l (4 + 2 * k)) rfl (by omega))) rfl (lp (po_ia_arr ar_123 rfl rfl (by omega) (by omega)) rfl (aJ (o_storeP (k := 1) (l' := cntC l (k + 1)) hs cH rfl rfl rfl rfl rfl (by show _ < 4; omega) (by rw [show 0 + ((k : Nat) : Int).toNat * 1 = k by omega, show w16 l (4 + 2 * k) = count l (k + 1) by unfold count; congr 1; omega]; exact cnt_set (by omega)) rfl (fun w hs => ?_)))))))))))))))
 refine aH (aB (lp (bN rfl rfl (fV (c := k + 1) (by omega) (by omega))) rfl (dM rfl rfl (aH ?_))))
 exact ⟨k + 1, aL rfl (aL rfl (aL rfl (aL rfl (aL rfl (aL rfl (aL rfl (bG _))))))), ⟨hs, by omega⟩, by omega⟩
 refine eT (aF ?_)
 have hk4 : k = 4 := by omega
 subst hk4
 refine aB (lp (po_makeFunc (l := [.tmp 9]) rfl) rfl (dN rfl rfl (aH (aF ?_))))
 have hb16 : w16 l 2 / 2048 < 65536 := by omega
 refine e_draw (fun w2 => w2.heap[b9]? = some (.cells [Value.int .u16 (w16 l 2)].toArray 22 (0, 0)) ∧ w2.heap[b5]? = some (.cells (cntC l 4).toArray 123 (0, 0))) [3, 18, 21] mixed (fun w hw => ?_)
 replace hs := hw.st hs
 refine dI 0 rfl (fun w => aC rfl) rfl rfl (dI 1 rfl (fun w => aC rfl) rfl rfl (dJ 3 rfl (⟨hs.g 0 rfl, hs.g 1 rfl⟩) rfl (fun w hf => (aO rfl (aQ eS hf.1 rfl))) rfl (dI 4 rfl (fun w => (po_shr rfl rfl (by decide) shr11)) rfl rfl (dI 5 rfl (fun w => (po_and rfl rfl ((u16and (b := 15) hb16 (by decide)).trans (by rw [and15])))) rfl rfl (dI 6 rfl (fun w => aC rfl) rfl rfl (dI 8 rfl (fun w => aC rfl) rfl rfl (dI 10 rfl (fun w => aC rfl) rfl rfl (dI 12 rfl (fun w => aC rfl) rfl rfl (dI 14 rfl (fun w => aC rfl) rfl rfl (dI 16 rfl (fun w => aC rfl) rfl rfl (dJ 18 rfl (⟨hs.g 0 rfl, hs.g 1 rfl⟩) rfl (fun w hf => (aO rfl (aQ eS hf.1 rfl))) rfl (dI 19 rfl (fun w => (po_and rfl rfl ((u16and (b := 15) hbl (by decide)).trans (by rw [and15])))) rfl rfl (dJ 21 rfl (⟨hs.g 0 rfl, hs.g 1 rfl⟩) rfl (fun w hf => (aO rfl (aP k_123 hf.2 rfl))) rfl ?_)))))))))))))
 refine dL 2 rfl (cF (rc_callC (cap := [.pointer (some ⟨b9, 0, none⟩)]) rfl rfl ok_175 (c_headBit hs.isIn (hs.g 0 rfl) hbl 15 (by decide))) rfl (fun v55 w HF => ?_))
 obtain ⟨rfl, hc⟩ := HF
 replace hs := hs.frame hc
 refine ⟨fun _ => ⟨hs.g 0 rfl, hs.g 1 rfl⟩, dL 7 rfl (cF (rc_callC (cap := [.pointer (some ⟨b9, 0, none⟩)]) rfl rfl ok_175 (c_headBit hs.isIn (hs.g 0 rfl) hbl 10 (by decide))) rfl (fun v60 w HF => ?_))⟩
 obtain ⟨rfl, hc⟩ := HF
 replace hs := hs.frame hc
 refine ⟨fun _ => ⟨hs.g 0 rfl, hs.g 1 rfl⟩, dL 9 rfl (cF (rc_callC (cap := [.pointer (some ⟨b9, 0, none⟩)]) rfl rfl ok_175 (c_headBit hs.isIn (hs.g 0 rfl) hbl 9 (by decide))) rfl (fun v62 w HF => ?_))⟩
 obtain ⟨rfl, hc⟩ := HF
 replace hs := hs.frame hc
 refine ⟨fun _ => ⟨hs.g 0 rfl, hs.g 1 rfl⟩, dL 11 rfl (cF (rc_callC (cap := [.pointer (some ⟨b9, 0, none⟩)]) rfl rfl ok_175 (c_headBit hs.isIn (hs.g 0 rfl) hbl 8 (by decide))) rfl (fun v64 w HF => ?_))⟩
 obtain ⟨rfl, hc⟩ := HF
 replace hs := hs.frame hc
 refine ⟨fun _ => ⟨hs.g 0 rfl, hs.g 1 rfl⟩, dL 13 rfl (cF (rc_callC (cap := [.pointer (some ⟨b9, 0, none⟩)]) rfl rfl ok_175 (c_headBit hs.isIn (hs.g 0 rfl) hbl 7 (by decide))) rfl (fun v66 w HF => ?_))⟩
 obtain ⟨rfl, hc⟩ := HF
 replace hs := hs.frame hc
 refine ⟨fun _ => ⟨hs.g 0 rfl, hs.g 1 rfl⟩, dL 15 rfl (cF (rc_callC (cap := [.pointer (some ⟨b9, 0, none⟩)]) rfl rfl ok_175 (c_headBit hs.isIn (hs.g 0 rfl) hbl 5 (by decide))) rfl (fun v68 w HF => ?_))⟩
 obtain ⟨rfl, hc⟩ := HF
 replace hs := hs.frame hc
 refine ⟨fun _ => ⟨hs.g 0 rfl, hs.g 1 rfl⟩, dL 17 rfl (cF (rc_callC (cap := [.pointer (some ⟨b9, 0, none⟩)]) rfl rfl ok_175 (c_headBit hs.isIn (hs.g 0 rfl) hbl 4 (by decide))) rfl (fun v70 w HF => ?_))⟩
 obtain ⟨rfl, hc⟩ := HF
 replace hs := hs.frame hc
 refine ⟨fun _ => ⟨hs.g 0 rfl, hs.g 1 rfl⟩, dI 20 rfl (fun w => (bL rfl (by rfl) (bu_33_0_1_2_3_4_5_6_7_8_9 _ _ _ _ _ _ _ _ _ _))) rfl rfl (dL 22 rfl (dR 3 hs bZ rfl rfl rfl (by simp) (by rfl) (aG rfl) rfl (fun w hs => ⟨fun _ => ⟨hs.g 0 rfl, hs.g 1 rfl⟩, dL 23 rfl (dR 2 hs k_123 rfl rfl rfl (by rfl) (by rfl) (aG rfl) rfl (fun w hs => ⟨fun h => absurd h (by decide +kernel), dI 24 rfl (fun w => aD rfl) rfl rfl (bS (by decide +kernel) (aV ⟨_, res3g ⟨_, rfl, aP bZ (hs.g 3 rfl) rfl⟩ ⟨_, rfl, aP k_123 (hs.g 2 rfl) rfl⟩ rfl, ?_⟩))⟩))⟩)))⟩
 exact ⟨_, _, true, rfl, (((hs.drop hb9).drop hb5).drop hb3).drop hb2, .inl ⟨rfl, by omega, rfl, rfl⟩⟩
def SName (l : List UInt8) (n o : Nat) (ok : Bool) (out : List UInt8) : Prop := (ok = true ∧ name l n = some (out, o)) ∨ (ok = false ∧ name l n = none ∧ out = [] ∧ o = 0)
def snE (mv sv : Value) (i jumps e : Nat) : Env := eH (eH (eH (eH (eH emp 9 (.int .i64 jumps)) 8 (.int .i64 e)) 7 sv) 1 (.int .i64 i)) 0 mv
theorem snE_sub {mv sv : Value} {i jumps e : Nat} {ρ : Env} (h0 : ρ 0 = some mv) (h1 : ρ 1 = some (.int .i64 i)) (h7 : ρ 7 = some sv) (h8 : ρ 8 = some (.int .i64 e)) (h9 : ρ 9 = some (.int .i64 jumps)) : Sub (snE mv sv i jumps e) ρ :=
 aL h0 (aL h1 (aL h7 (aL h8 (aL h9 (bG _)))))
set_option maxHeartbeats 2000000 in
theorem c_Name (hV : V.In w0) (hb : RB V mv l) (n : Nat) (hn : off = n) (h1 : n ≤ 1152921504606846976) (h2 : l.length ≤ 4294967296) :
  eC Tryz.prog 182 #[mv, .int .i64 off] w0 fun v w' => St ⟨w0, V, V⟩ w' [] ∧ ∃ (out : List UInt8) (o : Nat) (ok : Bool), v = .tuple #[fR out, .int .i64 o, .bool ok] ∧ SName l n o ok out := by
 subst hn
 obtain ⟨a, cap, rfl, hcap, ha⟩ := hb.form
 have hs := St.start hV
 refine aT [_, _] Tryz.func182 Tryz.ntmps182 Tryz.results182 rfl rfl (dP (dN rfl rfl (dN rfl rfl (dN rfl rfl (aH (dP (aJ (fP es_23 hs rfl (fun b14 w hb14 he14 hs => ?_)))))))))
 have hsl : Sl 5 1 ⟨w0, V, V⟩ w [] (.slice (some ⟨b14, 0, none⟩) 0 0) 0 [] := Sl.empty hs hb14
 refine dN rfl rfl (dN rfl rfl (dN rfl rfl (aH (bQ (dC (fun g : Nat × List UInt8 × Nat × Nat × Value => snE (.slice a l.length cap) g.2.2.2.2 g.1 g.2.2.1 g.2.2.2.1) (fun g w' => Sl 5 1 ⟨w0, V, V⟩ w' [] g.2.2.2.2 g.2.1.length (g.2.1.map eA) ∧ fS l g.1 g.2.1 g.2.2.1 g.2.2.2.1 = name l n ∧ g.1 ≤ 1152921504606846976 ∧ g.2.2.1 ≤ 10 ∧ g.2.1.length + ((11 - g.2.2.1) * (l.length + 2) + (l.length + 1 - g.1)) ≤ 12 * l.length + 23) (fun g => (11 - g.2.2.1) * (l.length + 2) + (l.length + 1 - g.1)) (n, [], 0, 0, .slice (some ⟨b14, 0, none⟩) 0 0) (snE_sub rfl rfl rfl rfl rfl) ⟨hsl, rfl, h1, by simp, by simp only [List.length_nil]; omega⟩ ?_)))))
 clear hs hsl
 rintro ⟨i, out, jumps, e, sv⟩ w ⟨hsl, hp, hi, hj, hm⟩
 simp only at hsl hp hi hj hm ⊢
 obtain ⟨sa, scap, rfl⟩ := hsl.size
 refine bQ (aF (aF ?_))
 have hg : decide ((i : Int) < 0) = false := decide_eq_false (by omega)
 refine aB (dM rfl rfl (lp (cY rfl rfl) rfl (dM rfl rfl (lg rfl rfl hg (aC rfl) rfl (lg rfl rfl hg (aC rfl) rfl (lg rfl rfl hg (bC Tryz.underlying23 rfl) rfl (lg rfl rfl hg (po_geq rfl rfl) rfl (lp (bW rfl (by assumption) rfl) rfl (aH (bH rfl (fun hc0 => ?_) (fun hc0 => ?_)))))))))))
 refine dP (dN rfl rfl (dN rfl rfl (dN rfl rfl (aH (aV ⟨_, res3 rfl rfl rfl, ?_⟩)))))
 exact ⟨hsl.st, [], 0, false, rfl, .inr ⟨rfl, by rw [← hp, fS, dif_neg (by omega)], rfl, rfl⟩⟩
 obtain ⟨b, p, rfl, hc⟩ := ha (by omega)
 have hlt := cU l i
 have hlen : i < l.length := by omega
 refine aW (dP (dM rfl rfl (dM rfl rfl (lp (po_ia es_23 rfl rfl (by omega) (by omega)) rfl (lp (aO rfl (bR k_5 (ldb hsl.isIn hc i rfl (by omega)))) rfl (lp (bY Tryz.underlying5 Tryz.underlying3 rfl (fV (c := eB l i) rfl (by omega))) rfl (dN rfl rfl (aH (dP (dM rfl rfl (lp (bN rfl rfl (fV (c := i + 1) (by omega) (by omega))) rfl (dN rfl rfl (aH ?_)))))))))))))
 refine bQ (dP (dM rfl rfl (lp (bI rfl rfl) rfl (dN rfl rfl (aH (bH rfl (fun hc1 => ?_) (fun hc1 => ?_)))))))
 refine dG (fun ρ w => Sub (eH (eH emp 8 (.int .i64 ((if jumps = 0 then i + 1 else e : Nat)))) 7 (.slice sa out.length scap)) ρ ∧ Sl 5 1 ⟨w0, V, V⟩ w [] (.slice sa out.length scap) out.length (out.map eA)) ?_ ?_
 refine dP (dM rfl rfl (lp (bI rfl rfl) rfl (aH (bH rfl (fun hc2 => ?_) (fun hc2 => ?_)))))
 refine aB (dM rfl rfl (dN rfl rfl (aH ?_)))
 exact ⟨aL rfl (aL (congrArg (fun q : Nat => some (Value.int .i64 q)) (if_pos (by omega)).symm) (bG _)), hsl⟩
 refine aW ?_
 exact ⟨aL rfl (aL (congrArg (fun q : Nat => some (Value.int .i64 q)) (if_neg (by omega)).symm) (bG _)), hsl⟩
 clear hsl
 rintro ρ w ⟨hsub, hsl⟩
 refine EW.weaken hsub (dG (fun ρ w => ∃ sv', Sub (eH (eH emp 8 (.int .i64 ((if jumps = 0 then i + 1 else e : Nat)))) 7 sv') ρ ∧ Sl 5 1 ⟨w0, V, V⟩ w [] sv' (orDot out).length ((orDot out).map eA)) ?_ ?_)
 refine dP (dM rfl rfl (lp (bC Tryz.underlying23 rfl) rfl (lp (bI rfl rfl) rfl (aH (bH rfl (fun hc3 => ?_) (fun hc3 => ?_))))))
 refine aB (dM rfl rfl (l_app1 (cl := [.int .u8 46]) el_23 hsl (fun _ => rfl) rfl rfl rfl (aG rfl) (by omega) (by omega) (by omega) rfl rfl (fun b40 sv' w hsl => ?_)))
 skip
 refine dN rfl rfl (aH ?_)
 obtain rfl : out = [] := List.eq_nil_of_length_eq_zero (by omega)
 exact ⟨_, aL rfl (aL rfl (bG _)), hsl⟩
 refine aW ?_
 exact ⟨_, aL rfl (aL rfl (bG _)), by rw [orDot_of (by omega)]; exact hsl⟩
 clear hsl
 rintro ρ w ⟨sv', hsub, hsl⟩
 refine EW.weaken hsub ?_
 obtain ⟨sa', scap', rfl⟩ := hsl.size
 refine aF (dP (dM rfl rfl (lp (bC Tryz.underlying23 rfl) rfl (lp (cQ rfl rfl) rfl (aH (bH rfl (fun hc4 => ?_) (fun hc4 => ?_)))))))
 refine dP (dN rfl rfl (dN rfl rfl (dN rfl rfl (aH (aV ⟨_, res3 rfl rfl rfl, ?_⟩)))))
 exact ⟨hsl.st, [], 0, false, rfl, .inr ⟨rfl, by rw [← hp, fS, dif_pos hlen, if_pos (by omega), if_pos (by omega)], rfl, rfl⟩⟩
 refine aW (aF ?_)
 have hs0 := hsl.st
 obtain ⟨V', hle', hsv, hs⟩ := hsl.give
 have hRB : RB V' (.slice sa' (orDot out).length scap') (orDot out) := hsv
 refine aB (dM rfl rfl (lp (po_bytesStrR hRB hs.isIn Tryz.underlying23 Tryz.underlying5 Tryz.underlying9 rfl) rfl (dM rfl rfl (dN rfl rfl (dN rfl rfl (dN rfl rfl (aH (aV ⟨_, res3 rfl rfl rfl, ?_⟩))))))))
 exact ⟨hs.lower hs0 hle', orDot out, _, true, rfl, .inl ⟨rfl, by rw [← hp, fS, dif_pos hlen, if_pos (by omega), if_neg (by omega)]⟩⟩
 refine dP (dM rfl rfl (lp (cY rfl rfl) rfl (dN rfl rfl (aH (bH rfl (fun hc5 => ?_) (fun hc5 => ?_))))))
 refine aF (dP (dM rfl rfl (dM rfl rfl (lp (bN rfl rfl (i64w (by omega))) rfl (dM rfl rfl (lp (bC Tryz.underlying23 rfl) rfl (lp (cQ rfl rfl) rfl (aH (bH rfl (fun hc6 => ?_) (fun hc6 => ?_))))))))))
 refine dP (dN rfl rfl (dN rfl rfl (dN rfl rfl (aH (aV ⟨_, res3 rfl rfl rfl, ?_⟩)))))
 exact ⟨hsl.st, [], 0, false, rfl, .inr ⟨rfl, by rw [← hp, fS, dif_pos hlen, if_neg (by omega), dif_pos (by omega), dif_neg (by omega)], rfl, rfl⟩⟩
 refine aW (aF (aF ?_))
 have hc64 : eB l i < 64 := by omega
 have hc1 : 0 < eB l i := by omega
 have hend : i + 1 + eB l i ≤ l.length := by omega
 have hsg := seg_len hend
 refine aB (dM rfl rfl (dM rfl rfl (dM rfl rfl (dM rfl rfl (lp (bN rfl rfl (fV (c := i + 1 + eB l i) (by omega) (by omega))) rfl (lp (po_part (i + 1) (eB l i) es_23 rfl rfl rfl rfl rfl (by omega) (by omega)) rfl (lp (bC Tryz.underlying23 rfl) rfl (dM rfl rfl (aH (bQ (dC (fun j : Nat => eH (eH (eH (eH (snE (.slice (some ⟨b, p, none⟩) l.length cap) (.slice sa out.length scap) (i + 1) jumps e) 10 (.int .i64 (eB l i))) 62 (.slice (some ⟨b, p + (i + 1), none⟩) (eB l i) (cap - (i + 1)))) 63 (.int .i64 (eB l i))) 64 (.int .i64 j)) (fun j w' => Sl 5 1 ⟨w0, V, V⟩ w' [] (.slice sa out.length scap) out.length (out.map eA) ∧ j ≤ eB l i ∧ ∀ m, m < j → eB (seg l (i + 1) (eB l i)) m ≠ 46) (fun j => eB l i - j) 0 (aL rfl (aL rfl (aL rfl (aL rfl (snE_sub rfl rfl rfl rfl rfl))))) ⟨hsl, by omega, by omega⟩ ?_)))))))))))
 clear hsl
 rintro j w ⟨hsl, hjc, hno⟩
 refine dP (lp (cY rfl rfl) rfl (aH (aF (bH rfl (fun hc7 => ?_) (fun hc7 => ?_)))))
 refine aW (aF (bQ (dP (lp (po_ia es_23 rfl rfl (by omega) (by omega)) rfl (lp (aO rfl (bR k_5 (ldb (l := seg l (i + 1) (eB l i)) hsl.isIn (cells_seg hc hend) j rfl (by omega)))) rfl (dN rfl rfl (aH (dP (dM rfl rfl (lp (bI rfl rfl) rfl (aH (bH rfl (fun hc8 => ?_) (fun hc8 => ?_)))))))))))))
 refine dP (dN rfl rfl (dN rfl rfl (dN rfl rfl (aH (aV ⟨_, res3 rfl rfl rfl, ?_⟩)))))
 have h46 := has46.2 ⟨j, by omega, Int.ofNat.inj hc8⟩
 exact ⟨hsl.st, [], 0, false, rfl, .inr ⟨rfl, by rw [← hp, fS, dif_pos hlen, if_neg (by omega), dif_pos (by omega), dif_pos hend, if_pos h46], rfl, rfl⟩⟩
 refine aW (aB (lp (bN rfl rfl (fV (c := j + 1) (by omega) (by omega))) rfl (dM rfl rfl (aH ?_))))
 exact ⟨j + 1, aL rfl (aL rfl (aL rfl (aL rfl (snE_sub rfl rfl rfl rfl rfl)))), ⟨hsl, by omega, fun m hm => by
  by_cases hmj : m = j
  subst hmj; omega
  exact hno m (by omega)⟩, by omega⟩
 refine eT (aF ?_)
 have hnot : ¬ (seg l (i + 1) (eB l i)).contains 46 = true := fun h => by
  obtain ⟨m, hm1, hm2⟩ := has46.1 h
  exact hno m (by omega) hm2
 refine aB (dM rfl rfl (dM rfl rfl (dM rfl rfl (dM rfl rfl (dM rfl rfl (lp (bN rfl rfl (fV (c := i + 1 + eB l i) (by omega) (by omega))) rfl (lp (po_part (i + 1) (eB l i) es_23 rfl rfl rfl rfl rfl (by omega) (by omega)) rfl (aJ (fA (k := eB l i) (news := (seg l (i + 1) (eB l i)).map eA) el_23 (.inr ⟨_, Tryz.underlying23⟩) hsl rfl rfl (src_seg hsl.isIn hc hend) (dH _) (by omega) (by omega) rfl (fun v78 w hsl => l_app1 (cl := [.int .u8 46]) el_23 hsl (fun _ => rfl) rfl rfl rfl (aG rfl) (by omega) (by omega) (by omega) rfl rfl (fun b79 sv' w hsl => ?_)))))))))))
 skip
 refine dN rfl rfl (aH (aB (dM rfl rfl (dM rfl rfl (lp (bN rfl rfl (fV (c := i + 1 + eB l i) (by omega) (by omega))) rfl (dN rfl rfl (aH ?_)))))))
 have e1 : (out ++ seg l (i + 1) (eB l i) ++ [46]).length = out.length + eB l i + 1 := by simp [hsg]; omega
 have e2 : (out ++ seg l (i + 1) (eB l i) ++ [46]).map eA = out.map eA ++ (seg l (i + 1) (eB l i)).map eA ++ [.int .u8 46] := by simp [eA]
 exact ⟨(i + 1 + eB l i, out ++ seg l (i + 1) (eB l i) ++ [46], jumps, e, sv'), snE_sub rfl rfl rfl rfl rfl, ⟨by rw [e1, e2]; exact hsl, by
  rw [← hp]
  conv => rhs; rw [fS, dif_pos hlen, if_neg (by omega), dif_pos hc64, dif_pos hend, if_neg hnot], by simp only; omega, hj, by simp only [e1]; omega⟩, by simp only; omega⟩
 refine dP (dM rfl rfl (lp (po_geq rfl rfl) rfl (dN rfl rfl (aH (bH rfl (fun hc9 => ?_) (fun hc9 => ?_))))))
 refine aF (dP (dM rfl rfl (dM rfl rfl (lp (bC Tryz.underlying23 rfl) rfl (lp (po_geq rfl rfl) rfl (aH (bH rfl (fun hc10 => ?_) (fun hc10 => ?_))))))))
 refine dP (dN rfl rfl (dN rfl rfl (dN rfl rfl (aH (aV ⟨_, res3 rfl rfl rfl, ?_⟩)))))
 exact ⟨hsl.st, [], 0, false, rfl, .inr ⟨rfl, by rw [← hp, fS, dif_pos hlen, if_neg (by omega), dif_neg (by omega), if_pos (by omega), if_neg (by omega)], rfl, rfl⟩⟩
 refine aW (aF ?_)
 have hl1 := cU l (i + 1)
 refine aB (dM rfl rfl (lp (po_sub rfl rfl (i64w (by omega))) rfl (lp (po_mul rfl rfl (i64w (by omega))) rfl (dM rfl rfl (dM rfl rfl (lp (po_ia es_23 rfl rfl (by omega) (by omega)) rfl (lp (aO rfl (bR k_5 (ldb hsl.isIn hc (i + 1) rfl (by omega)))) rfl (lp (bY Tryz.underlying5 Tryz.underlying3 rfl (fV (c := eB l (i + 1)) rfl (by omega))) rfl (lp (bN rfl rfl (fV (c := (eB l i - 192) * 256 + eB l (i + 1)) (by omega) (by omega))) rfl (dN rfl rfl (aH (dP (dM rfl rfl ?_)))))))))))))
 refine lp (bN rfl rfl (fV (c := i + 2) (by omega) (by omega))) rfl (dN rfl rfl (aH (dG (fun ρ w => Sub (eH (snE (.slice (some ⟨b, p, none⟩) l.length cap) (.slice sa out.length scap) (i + 2) jumps (if jumps = 0 then i + 2 else e)) 13 (.int .i64 ((eB l i - 192) * 256 + eB l (i + 1) : Nat))) ρ ∧ Sl 5 1 ⟨w0, V, V⟩ w [] (.slice sa out.length scap) out.length (out.map eA)) ?_ ?_)))
 refine dP (dM rfl rfl (lp (bI rfl rfl) rfl (aH (bH rfl (fun hc11 => ?_) (fun hc11 => ?_)))))
 refine aB (dM rfl rfl (dN rfl rfl (aH ?_)))
 exact ⟨aL rfl (snE_sub rfl rfl rfl (congrArg (fun q : Nat => some (Value.int .i64 q)) (if_pos (by omega)).symm) rfl), hsl⟩
 refine aW ?_
 exact ⟨aL rfl (snE_sub rfl rfl rfl (congrArg (fun q : Nat => some (Value.int .i64 q)) (if_neg (by omega)).symm) rfl), hsl⟩
 clear hsl
 rintro ρ w ⟨hsub, hsl⟩
 refine EW.weaken hsub (dP (dM rfl rfl (lp (bN rfl rfl (fV (c := jumps + 1) (by omega) (by omega))) rfl (dN rfl rfl (aH (aF (dP (dM rfl rfl (lp (cQ rfl rfl) rfl (aH (bH rfl (fun hc12 => ?_) (fun hc12 => ?_))))))))))))
 refine dP (dN rfl rfl (dN rfl rfl (dN rfl rfl (aH (aV ⟨_, res3 rfl rfl rfl, ?_⟩)))))
 exact ⟨hsl.st, [], 0, false, rfl, .inr ⟨rfl, by rw [← hp, fS, dif_pos hlen, if_neg (by omega), dif_neg (by omega), if_pos (by omega), if_pos (by omega), dif_neg (by omega)], rfl, rfl⟩⟩
 refine aW (aB (dM rfl rfl (dN rfl rfl (aH ?_))))
 have e11 : 11 - jumps = (11 - (jumps + 1)) + 1 := by omega
 have e12 : (11 - jumps) * (l.length + 2) = (11 - (jumps + 1)) * (l.length + 2) + (l.length + 2) := by rw [e11, Nat.add_mul, Nat.one_mul]
 exact ⟨((eB l i - 192) * 256 + eB l (i + 1), out, jumps + 1, (if jumps = 0 then i + 2 else e), .slice sa out.length scap), snE_sub rfl rfl rfl rfl rfl, ⟨hsl, by
  show fS l ((eB l i - 192) * 256 + eB l (i + 1)) out (jumps + 1) (if jumps = 0 then i + 2 else e) = name l n
  rw [← hp]
  conv => rhs; rw [fS, dif_pos hlen, if_neg (by omega), dif_neg (by omega), if_pos (by omega), if_pos (by omega), dif_pos (by omega)], by simp only; omega, by simp only; omega, by simp only; omega⟩, by simp only; omega⟩
 refine dP (dN rfl rfl (dN rfl rfl (dN rfl rfl (aH (aV ⟨_, res3 rfl rfl rfl, ?_⟩)))))
 exact ⟨hsl.st, [], 0, false, rfl, .inr ⟨rfl, by rw [← hp, fS, dif_pos hlen, if_neg (by omega), dif_neg (by omega), if_neg (by omega)], rfl, rfl⟩⟩
end
end Go.Proofs.YtgpfjlfkaoffeaaGreatDoor

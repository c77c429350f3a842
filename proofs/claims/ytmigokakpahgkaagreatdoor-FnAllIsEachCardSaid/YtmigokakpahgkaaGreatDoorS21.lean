/- The laws FnExactNameBytes and FnExactBodyBytes. -/
import Derived.Test.YtmigokakpahgkaaGreatDoorG30
set_option linter.all false
namespace Go.Proofs.YtmigokakpahgkaaGreatDoor
open Go
theorem St.frameN {w0 w w1 : World} {V0 V V' : Vw} {L : List (Nat × Obj)} {b : Nat} {o : Obj} (h : St ⟨w0, V0, V⟩ w L) (hc : St ⟨w, V, V'⟩ w1 [(b, o)]) (hb : w.heap.size ≤ b) (hu : Unf o) : St ⟨w0, V0, V'⟩ w1 ((b, o) :: L) :=
 (h.frame (hc.drop hb)).add (hc.get (k := 0) rfl) hu (fun x hx e => by have := h.lt hx; omega) (hc.off (k := 0) rfl)
theorem Sl.full {E : TypeId} {size n b : Nat} {w0 : Base} {w : World} {L : List (Nat × Obj)} {xs : List Value} (hs : St w0 w ((b, .cells xs.toArray E (0, 0)) :: L)) (hl : xs.length = n * size) (hn : n ≤ maxLen) (hb : w0.heap.size ≤ b) :
  Sl E size w0 w L (.slice (some ⟨b, 0, none⟩) n n) n xs := ⟨hl, .inr ⟨b, n, [], rfl, by simpa using hl, Nat.le_refl _, hn, hb, by simpa using hs⟩⟩
def leadL (a b c d : Nat) : List UInt8 := [0, 1, 0, 0, 0, UInt8.ofNat a, 0, UInt8.ofNat b, 0, UInt8.ofNat c, 0, UInt8.ofNat d]
section
variable {A : Nat → Addr} {V : Vw} {w0 : World} {l : List UInt8} {mv stv : Value} {steps : List Int}
set_option maxHeartbeats 4000000 in
theorem c_FnExactNameBytes (hG : Gl A V) (hV : V.In w0) (hb : RB V mv l) : CallsV Tryz.prog 5 #[mv] w0 (LawQ V w0) := by
 obtain ⟨a, cap, rfl, hca, _⟩ := hb.form
 have hs := St.start hV
 refine aT [_] Tryz.func5 Tryz.ntmps5 Tryz.results5 rfl rfl (dP (dN rfl rfl (aH (aF (dP (dM rfl rfl (lp (bC Tryz.underlying22 rfl) rfl (lp (cQ rfl rfl) rfl (aH (bH rfl (fun hc0 => ?_) (fun hc0 => ?_)))))))))))
 refine dP (dN rfl rfl (aH (aV ⟨_, res1 rfl, ?_⟩)))
 exact ⟨rfl, _, hs⟩
 refine aW (aF ?_)
 have hl1 : l.length ≤ 2147483647 := by omega
 have hll : (leadL 1 0 0 0).length = 12 := rfl
 refine aB (aZ ok_15 rfl rfl (c_Lead hs.isIn 1 0 0 0 rfl rfl rfl rfl (by decide) (by decide) (by decide) (by decide)) rfl (fun v7 w HF => ?_))
 obtain ⟨b7, hb7, rfl, hc⟩ := HF
 have hb7' := Nat.le_trans hs.size hb7
 replace hs := hs.frameN hc hb7 (bU _ _)
 refine dM rfl rfl (aJ (o_append (k := l.length) (news := l.map byteVal) el_22 (.inr ⟨_, Tryz.underlying22⟩) (Sl.full (xs := (leadL 1 0 0 0).map byteVal) hs rfl (by decide) hb7') rfl rfl ((hb.mono hs.view).src hs.isIn) (dH _) (by omega) (by omega) rfl (fun v9 w hs => ?_)))
 obtain ⟨V1, hV1, hsvV1, hs⟩ := hs.give
 have hm1 : RB V1 v9 (leadL 1 0 0 0 ++ l) := by unfold RB; rw [List.map_append, List.length_append]; exact hsvV1
 refine aJ (o_bslice (vls := [[.int .i64 (1)], [.int .i64 (2)], [.int .i64 (2)]]) el_24 hs rfl rfl rfl rfl (by simp) (by decide) (by decide) rfl (fun b10 w hb10 he10 hs => ?_))
 obtain ⟨V2, hV2, hvV2, hs⟩ := St.give hs hb10
 have hst1 : SlV V2 1 (.slice (some ⟨b10, 0, none⟩) 3 3) 3 (([1, 2, 2] : List Int).map fun i => .int .i64 i) := SlV.cells (sp := []) hvV2 rfl (by decide)
 refine aZ ok_13 rfl rfl (c_parse (hG.mono hs.view) hs.isIn (hm1.mono hV2) (by simp; omega) hst1 (by decide)) rfl (fun v11 w HF => ?_)
 obtain ⟨V3, hc, hR1⟩ := HF
 replace hs := hs.frame hc
 refine dN rfl rfl (aH (dP (dM rfl rfl (aZ ok_15 rfl rfl (c_Lead hs.isIn 1 0 0 0 rfl rfl rfl rfl (by decide) (by decide) (by decide) (by decide)) rfl (fun v13 w HF => ?_)))))
 obtain ⟨b13, hb13, rfl, hc⟩ := HF
 have hb13' := Nat.le_trans hs.size hb13
 replace hs := hs.frameN hc hb13 (bU _ _)
 refine dM rfl rfl (aJ (o_append (k := l.length) (news := l.map byteVal) el_22 (.inr ⟨_, Tryz.underlying22⟩) (Sl.full (xs := (leadL 1 0 0 0).map byteVal) hs rfl (by decide) hb13') rfl rfl ((hb.mono hs.view).src hs.isIn) (dH _) (by omega) (by omega) rfl (fun v15 w hs => ?_)))
 obtain ⟨V4, hV4, hsvV4, hs⟩ := hs.give
 have hm2 : RB V4 v15 (leadL 1 0 0 0 ++ l) := by unfold RB; rw [List.map_append, List.length_append]; exact hsvV4
 refine aJ (o_bslice (vls := [[.int .i64 (1)], [.int .i64 (2)], [.int .i64 (2)]]) el_24 hs rfl rfl rfl rfl (by simp) (by decide) (by decide) rfl (fun b16 w hb16 he16 hs => ?_))
 obtain ⟨V5, hV5, hvV5, hs⟩ := St.give hs hb16
 have hst2 : SlV V5 1 (.slice (some ⟨b16, 0, none⟩) 3 3) 3 (([1, 2, 2] : List Int).map fun i => .int .i64 i) := SlV.cells (sp := []) hvV5 rfl (by decide)
 refine aZ ok_17 rfl rfl (c_sparse hs.isIn (hm2.mono hV5) (by simp; omega) hst2 (by decide)) rfl (fun v17 w HF => ?_)
 obtain ⟨V6, hc, hR2⟩ := HF
 replace hs := hs.frame hc
 have hle6 := hc.view
 refine aZ ok_16 rfl rfl (c_SameSeen hs.isIn (hR1.mono (Vw.le_trans hV4 (Vw.le_trans hV5 hle6))) hR2 (by rw [parseM_len]; decide) (parseM_few _)) rfl (fun v18 w HF => ?_)
 obtain ⟨rfl, hc⟩ := HF
 replace hs := hs.frame hc
 refine dM rfl rfl (cX rfl rfl rfl (cF (cD rfl rfl ok_12 (c_packs (hG.mono hs.view) hs.isIn)) rfl (fun vP w HF => ?_)))
 obtain ⟨rfl, VP, hc⟩ := HF
 replace hs := hs.frame hc
 refine lp (bO rfl rfl rfl) rfl (dN rfl rfl (aH (aV ⟨_, res1 rfl, ?_⟩)))
 exact ⟨rfl, _, hs⟩
end
end Go.Proofs.YtmigokakpahgkaaGreatDoor

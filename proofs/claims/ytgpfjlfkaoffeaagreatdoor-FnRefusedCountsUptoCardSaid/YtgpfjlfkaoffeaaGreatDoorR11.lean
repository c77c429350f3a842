/- Bodies of several parts. Bodies with rows: unknown ones, texts, options. Bodies with options. -/
import Derived.Test.YtgpfjlfkaoffeaaGreatDoorR10
set_option linter.all false
namespace Go.Proofs.YtgpfjlfkaoffeaaGreatDoor
open Go
section
variable {A : Nat → Addr} {V : Vw} {w0 : World} {l : List UInt8} {mv : Value} {off : Int}
theorem c_unpackMX (hG : Gl A V) (hV : V.In w0) (hb : RB V mv l) (n : Nat) (hn : off = n) (h1 : n ≤ 1152921504606846975) (h2 : l.length ≤ 1152921504606846975) :
  eC Tryz.prog 165 #[mv, .int .i64 off] w0 fun v w' => ∃ (cs : List Value) (e : Value) (k : EK), v = .tuple #[.agg cs.toArray, e] ∧ St ⟨w0, V, V⟩ w' [] ∧ ErrV A e k ∧ cs.length = 257 ∧ Flat cs ∧
   ((∃ r, k = .ok ∧ ∀ len, body l n 6 len = some r ∧ fL V 6 0 r cs) ∨ (k = .other ∧ ∀ len, body l n 6 len = none)) := by
 subst hn
 have hs := St.start hV
 refine aT [_, _] Tryz.func165 Tryz.ntmps165 Tryz.results165 rfl rfl (dP (aJ (aX hs z_183 rfl (fun b4 w hb4 he4 hs => dN rfl rfl (aH (dP (dM rfl rfl (dM rfl rfl (aZ ok_149 rfl rfl (cP hG hs.isIn hb n rfl (by omega) (by omega)) rfl (fun v14 w HF => ?_))))))))))
 obtain ⟨hc, x, o, k, e, rfl, he, hr⟩ := HF
 replace hs := hs.frame hc
 refine dM rfl rfl (dO rfl rfl rfl (dO rfl rfl rfl (dO rfl rfl rfl (dN rfl rfl (dN rfl rfl (dN rfl rfl (aH (aF (dP (dM rfl rfl (lp (bB he rfl) rfl (aH (bH rfl (fun hc0 => ?_) (fun hc0 => ?_))))))))))))))
 refine dP (lp (bM (vs := []) (ps := []) rfl bz_183) rfl (dM rfl rfl (lp (bL rfl (by (simp only [List.all_cons, List.all_nil, he.oneCell]; rfl)) (eI _ _)) rfl (aJ (cR hs rfl rfl rfl (fun b23 w hb23 hbe23 hs => ?_))))))
 replace hs := hs.drop hb23
 refine lp (cG Tryz.underlying139 (fun _ h => by cases h) rfl) rfl (aJ (dR 0 hs k_183 rfl rfl rfl (by simp) (by simp) (aG (by decide +kernel)) rfl (fun w hs => dN rfl rfl (aH (aV ⟨_, fX ⟨_, rfl, aP k_183 (hs.g 0 rfl) (by simp)⟩ rfl, ?_⟩)))))
 exact ⟨_, _, .other, rfl, hs.drop hb4, dA, by simp, aG (by decide +kernel), .inr ⟨rfl, fun len => by simp [body, (hr.bad hc0).2]⟩⟩
 have hk : k = .ok := by simpa using hc0
 subst hk
 obtain ⟨hx, rfl, hxe, hl0⟩ := hr.ok
 have hxl := hr.lt.1
 refine aW (dP (aJ (aX hs z_86 rfl (fun b8 w hb8 he8 hs => ?_))))
 rw [rep256] at hs
 refine aH (aF (dP (dM rfl rfl (dM rfl rfl (aZ ok_151 rfl rfl (c_nameUnpack (pre := []) (post := []) hG hs.isIn hb rfl (by have := hs.g 0 rfl; rw [List.nil_append, List.append_nil]; exact this) (hs.off (k := 0) rfl) (n + 2) rfl (by omega) (by omega)) rfl (fun v28 w HF => ?_))))))
 obtain ⟨o, k, e, out, z, rfl, he, ho, hz, hc, hr⟩ := HF
 replace hs := hs.frame1 (k := 0) rfl rfl hc
 rw [List.nil_append, List.append_nil] at hs
 have hnl := cM (n := z) (Nat.le_trans ho (by decide : 254 ≤ 255))
 refine dM rfl rfl (dO rfl rfl rfl (dO rfl rfl rfl (dN rfl rfl (dN rfl rfl (aH (dP (dM rfl rfl (lp (bB he rfl) rfl (aH (bH rfl (fun hc1 => ?_) (fun hc1 => ?_)))))))))))
 refine dP (lp (bM (vs := []) (ps := []) rfl bz_183) rfl (dM rfl rfl (lp (bL rfl (by (simp only [List.all_cons, List.all_nil, he.oneCell]; rfl)) (eI _ _)) rfl (aJ (cR hs rfl rfl rfl (fun b36 w hb36 hbe36 hs => ?_))))))
 replace hs := hs.drop hb36
 refine lp (cG Tryz.underlying139 (fun _ h => by cases h) rfl) rfl (aJ (dR 1 hs k_183 rfl rfl rfl (by simp) (by simp [cM]) (aG (by decide +kernel)) rfl (fun w hs => dN rfl rfl (aH (aV ⟨_, fX ⟨_, rfl, aP k_183 (hs.g 1 rfl) (by simp)⟩ rfl, ?_⟩)))))
 exact ⟨_, _, .other, rfl, (hs.drop hb8).drop hb4, dA, by simp, aG (by decide +kernel), .inr ⟨rfl, fun len => by simp [body, hx, (hr.bad hc1).2]⟩⟩
 have hk : k = .ok := by simpa using hc1
 subst hk
 obtain ⟨hname, rfl⟩ := hr.ok
 refine aW (dP (dM rfl rfl (lp (aO rfl (aP k_86 (hs.g 0 rfl) hnl)) rfl (lp (fO [[.int .u16 x], nmC out out.length] st_183 rfl rfl rfl (by simp [hnl]) (show _ = .int .u16 x :: nmC out out.length by simp)) rfl ?_))))
 have hln : (Value.int .u16 x :: nmC out out.length).length = 257 := by simp [hnl]
 refine aJ (dR 1 hs k_183 rfl rfl rfl hln (by simp [cM]) (bX rfl (eU _ _)) rfl (fun w hs => dN rfl rfl (aH (aV ⟨_, fX ⟨_, rfl, aP k_183 (hs.g 1 rfl) hln⟩ rfl, ?_⟩))))
 exact ⟨_, _, .ok, rfl, (hs.drop hb8).drop hb4, rfl, hln, bX rfl (eU _ _), .inl ⟨_, rfl, fun len => ⟨by simp only [body, hx, hname, Option.bind_some, Option.map_some]; rfl, rfl, ho, hxl⟩⟩⟩
theorem c_unpackSRV (hG : Gl A V) (hV : V.In w0) (hb : RB V mv l) (n : Nat) (hn : off = n) (h1 : n ≤ 1152921504606846970) (h2 : l.length ≤ 1152921504606846975) :
  eC Tryz.prog 168 #[mv, .int .i64 off] w0 fun v w' => ∃ (cs : List Value) (e : Value) (k : EK), v = .tuple #[.agg cs.toArray, e] ∧ St ⟨w0, V, V⟩ w' [] ∧ ErrV A e k ∧ cs.length = 259 ∧ Flat cs ∧
   ((∃ r, k = .ok ∧ ∀ len, body l n 9 len = some r ∧ fL V 9 0 r cs) ∨ (k = .other ∧ ∀ len, body l n 9 len = none)) := by
 subst hn
 have hs := St.start hV
 refine aT [_, _] Tryz.func168 Tryz.ntmps168 Tryz.results168 rfl rfl (dP (aJ (aX hs z_199 rfl (fun b4 w hb4 he4 hs => dN rfl rfl (aH (dP (dM rfl rfl (dM rfl rfl (aZ ok_149 rfl rfl (cP hG hs.isIn hb n rfl (by omega) (by omega)) rfl (fun v16 w HF => ?_))))))))))
 obtain ⟨hc, x1, o, k, e, rfl, he, hr⟩ := HF
 replace hs := hs.frame hc
 refine dM rfl rfl (dO rfl rfl rfl (dO rfl rfl rfl (dO rfl rfl rfl (dN rfl rfl (dN rfl rfl (dN rfl rfl (aH (aF (dP (dM rfl rfl (lp (bB he rfl) rfl (aH (bH rfl (fun hc0 => ?_) (fun hc0 => ?_))))))))))))))
 refine dP (lp (bM (vs := []) (ps := []) rfl bz_199) rfl (dM rfl rfl (lp (bL rfl (by (simp only [List.all_cons, List.all_nil, he.oneCell]; rfl)) (eI _ _)) rfl (aJ (cR hs rfl rfl rfl (fun b25 w hb25 hbe25 hs => ?_))))))
 replace hs := hs.drop hb25
 refine lp (cG Tryz.underlying139 (fun _ h => by cases h) rfl) rfl (aJ (dR 0 hs k_199 rfl rfl rfl (by simp) (by simp) (aG (by decide +kernel)) rfl (fun w hs => dN rfl rfl (aH (aV ⟨_, fX ⟨_, rfl, aP k_199 (hs.g 0 rfl) (by simp)⟩ rfl, ?_⟩)))))
 exact ⟨_, _, .other, rfl, hs.drop hb4, dA, by simp, aG (by decide +kernel), .inr ⟨rfl, fun len => by simp [body, (hr.bad hc0).2]⟩⟩
 have hk : k = .ok := by simpa using hc0
 subst hk
 obtain ⟨hx1, rfl, hxe1, hl0⟩ := hr.ok
 have hxl1 := hr.lt.1
 refine aW (dP (dM rfl rfl (dM rfl rfl (aZ ok_149 rfl rfl (cP hG hs.isIn hb (n + 2) rfl (by omega) (by omega)) rfl (fun v30 w HF => ?_)))))
 obtain ⟨hc, x2, o, k, e, rfl, he, hr⟩ := HF
 replace hs := hs.frame hc
 refine dM rfl rfl (dO rfl rfl rfl (dO rfl rfl rfl (dO rfl rfl rfl (dN rfl rfl (dN rfl rfl (dN rfl rfl (aH (aF (dP (dM rfl rfl (lp (bB he rfl) rfl (aH (bH rfl (fun hc1 => ?_) (fun hc1 => ?_))))))))))))))
 refine dP (lp (bM (vs := []) (ps := []) rfl bz_199) rfl (dM rfl rfl (lp (bL rfl (by (simp only [List.all_cons, List.all_nil, he.oneCell]; rfl)) (eI _ _)) rfl (aJ (cR hs rfl rfl rfl (fun b39 w hb39 hbe39 hs => ?_))))))
 replace hs := hs.drop hb39
 refine lp (cG Tryz.underlying139 (fun _ h => by cases h) rfl) rfl (aJ (dR 0 hs k_199 rfl rfl rfl (by simp) (by simp) (aG (by decide +kernel)) rfl (fun w hs => dN rfl rfl (aH (aV ⟨_, fX ⟨_, rfl, aP k_199 (hs.g 0 rfl) (by simp)⟩ rfl, ?_⟩)))))
 exact ⟨_, _, .other, rfl, hs.drop hb4, dA, by simp, aG (by decide +kernel), .inr ⟨rfl, fun len => by simp [body, hx1, (hr.bad hc1).2]⟩⟩
 have hk : k = .ok := by simpa using hc1
 subst hk
 obtain ⟨hx2, rfl, hxe2, hl0⟩ := hr.ok
 have hxl2 := hr.lt.1
 refine aW (dP (dM rfl rfl (dM rfl rfl (aZ ok_149 rfl rfl (cP hG hs.isIn hb (n + 4) (by omega) (by omega) (by omega)) rfl (fun v44 w HF => ?_)))))
 obtain ⟨hc, x3, o, k, e, rfl, he, hr⟩ := HF
 replace hs := hs.frame hc
 refine dM rfl rfl (dO rfl rfl rfl (dO rfl rfl rfl (dO rfl rfl rfl (dN rfl rfl (dN rfl rfl (dN rfl rfl (aH (aF (dP (dM rfl rfl (lp (bB he rfl) rfl (aH (bH rfl (fun hc2 => ?_) (fun hc2 => ?_))))))))))))))
 refine dP (lp (bM (vs := []) (ps := []) rfl bz_199) rfl (dM rfl rfl (lp (bL rfl (by (simp only [List.all_cons, List.all_nil, he.oneCell]; rfl)) (eI _ _)) rfl (aJ (cR hs rfl rfl rfl (fun b53 w hb53 hbe53 hs => ?_))))))
 replace hs := hs.drop hb53
 refine lp (cG Tryz.underlying139 (fun _ h => by cases h) rfl) rfl (aJ (dR 0 hs k_199 rfl rfl rfl (by simp) (by simp) (aG (by decide +kernel)) rfl (fun w hs => dN rfl rfl (aH (aV ⟨_, fX ⟨_, rfl, aP k_199 (hs.g 0 rfl) (by simp)⟩ rfl, ?_⟩)))))
 exact ⟨_, _, .other, rfl, hs.drop hb4, dA, by simp, aG (by decide +kernel), .inr ⟨rfl, fun len => by simp [body, hx1, hx2, (hr.bad hc2).2]⟩⟩
 have hk : k = .ok := by simpa using hc2
 subst hk
 obtain ⟨hx3, rfl, hxe3, hl0⟩ := hr.ok
 have hxl3 := hr.lt.1
 refine aW (dP (aJ (aX hs z_86 rfl (fun b10 w hb10 he10 hs => ?_))))
 rw [rep256] at hs
 refine aH (aF (dP (dM rfl rfl (dM rfl rfl (aZ ok_151 rfl rfl (c_nameUnpack (pre := []) (post := []) hG hs.isIn hb rfl (by have := hs.g 0 rfl; rw [List.nil_append, List.append_nil]; exact this) (hs.off (k := 0) rfl) (n + 6) (by omega) (by omega) (by omega)) rfl (fun v58 w HF => ?_))))))
 obtain ⟨o, k, e, out, z, rfl, he, ho, hz, hc, hr⟩ := HF
 replace hs := hs.frame1 (k := 0) rfl rfl hc
 rw [List.nil_append, List.append_nil] at hs
 have hnl := cM (n := z) (Nat.le_trans ho (by decide : 254 ≤ 255))
 refine dM rfl rfl (dO rfl rfl rfl (dO rfl rfl rfl (dN rfl rfl (dN rfl rfl (aH (dP (dM rfl rfl (lp (bB he rfl) rfl (aH (bH rfl (fun hc3 => ?_) (fun hc3 => ?_)))))))))))
 refine dP (lp (bM (vs := []) (ps := []) rfl bz_199) rfl (dM rfl rfl (lp (bL rfl (by (simp only [List.all_cons, List.all_nil, he.oneCell]; rfl)) (eI _ _)) rfl (aJ (cR hs rfl rfl rfl (fun b66 w hb66 hbe66 hs => ?_))))))
 replace hs := hs.drop hb66
 refine lp (cG Tryz.underlying139 (fun _ h => by cases h) rfl) rfl (aJ (dR 1 hs k_199 rfl rfl rfl (by simp) (by simp [cM]) (aG (by decide +kernel)) rfl (fun w hs => dN rfl rfl (aH (aV ⟨_, fX ⟨_, rfl, aP k_199 (hs.g 1 rfl) (by simp)⟩ rfl, ?_⟩)))))
 exact ⟨_, _, .other, rfl, (hs.drop hb10).drop hb4, dA, by simp, aG (by decide +kernel), .inr ⟨rfl, fun len => by simp [body, hx1, hx2, hx3, (hr.bad hc3).2]⟩⟩
 have hk : k = .ok := by simpa using hc3
 subst hk
 obtain ⟨hname, rfl⟩ := hr.ok
 refine aW (dP (dM rfl rfl (dM rfl rfl (dM rfl rfl (lp (aO rfl (aP k_86 (hs.g 0 rfl) hnl)) rfl (lp (fO [[.int .u16 x1], [.int .u16 x2], [.int .u16 x3], nmC out out.length] st_199 rfl rfl rfl (by simp [hnl]) (show _ = .int .u16 x1 :: .int .u16 x2 :: .int .u16 x3 :: nmC out out.length by simp)) rfl ?_))))))
 have hln : (Value.int .u16 x1 :: .int .u16 x2 :: .int .u16 x3 :: nmC out out.length).length = 259 := by simp [hnl]
 have hfl : Flat (Value.int .u16 x1 :: .int .u16 x2 :: .int .u16 x3 :: nmC out out.length) := bX rfl (bX rfl (bX rfl (eU _ _)))
 refine aJ (dR 1 hs k_199 rfl rfl rfl hln (by simp [cM]) hfl rfl (fun w hs => dN rfl rfl (aH (aV ⟨_, fX ⟨_, rfl, aP k_199 (hs.g 1 rfl) hln⟩ rfl, ?_⟩))))
 exact ⟨_, _, .ok, rfl, (hs.drop hb10).drop hb4, rfl, hln, hfl, .inl ⟨_, rfl, fun len => ⟨by simp only [body, hx1, hx2, hx3, hname, Option.bind_some, Option.map_some]; rfl, rfl, ho, hxl1, hxl2, hxl3⟩⟩⟩
theorem c_unpackSOA (hG : Gl A V) (hV : V.In w0) (hb : RB V mv l) (n : Nat) (hn : off = n) (h1 : n ≤ 1152921504606846970) (h2 : l.length ≤ 1152921504606846900) :
  eC Tryz.prog 163 #[mv, .int .i64 off] w0 fun v w' => ∃ (cs : List Value) (e : Value) (k : EK), v = .tuple #[.agg cs.toArray, e] ∧ St ⟨w0, V, V⟩ w' [] ∧ ErrV A e k ∧ cs.length = 517 ∧ Flat cs ∧
   ((∃ r, k = .ok ∧ ∀ len, body l n 4 len = some r ∧ fL V 4 0 r cs) ∨ (k = .other ∧ ∀ len, body l n 4 len = none)) := by
 subst hn
 have hs := St.start hV
 refine aT [_, _] Tryz.func163 Tryz.ntmps163 Tryz.results163 rfl rfl (dP (aJ (aX hs z_173 rfl (fun b4 w hb4 he4 hs => dN rfl rfl (aH (dP (aJ (aX hs z_86 rfl (fun b6 w hb6 he6 hs => ?_)))))))))
 rw [rep256] at hs
 refine aH (dP (dM rfl rfl (dM rfl rfl (aZ ok_151 rfl rfl (c_nameUnpack (pre := []) (post := []) hG hs.isIn hb rfl (by have := hs.g 0 rfl; rw [List.nil_append, List.append_nil]; exact this) (hs.off (k := 0) rfl) n rfl (by omega) (by omega)) rfl (fun v18 w HF => ?_)))))
 obtain ⟨o, k, e, out, z, rfl, he, ho, hz, hc, hr⟩ := HF
 replace hs := hs.frame1 (k := 0) rfl rfl hc
 rw [List.nil_append, List.append_nil] at hs
 have hnl := cM (n := z) (Nat.le_trans ho (by decide : 254 ≤ 255))
 refine dM rfl rfl (dO rfl rfl rfl (dO rfl rfl rfl (dN rfl rfl (dN rfl rfl (aH (aF (dP (dM rfl rfl (lp (bB he rfl) rfl (aH (bH rfl (fun hc0 => ?_) (fun hc0 => ?_))))))))))))
 refine dP (lp (bM (vs := []) (ps := []) rfl bz_173) rfl (dM rfl rfl (lp (bL rfl (by (simp only [List.all_cons, List.all_nil, he.oneCell]; rfl)) (eI _ _)) rfl (aJ (cR hs rfl rfl rfl (fun b26 w hb26 hbe26 hs => ?_))))))
 replace hs := hs.drop hb26
 refine lp (cG Tryz.underlying139 (fun _ h => by cases h) rfl) rfl (aJ (dR 1 hs k_173 rfl rfl rfl (by simp) (by simp [cM]) (aG (by decide +kernel)) rfl (fun w hs => dN rfl rfl (aH (aV ⟨_, fX ⟨_, rfl, aP k_173 (hs.g 1 rfl) (by simp)⟩ rfl, ?_⟩)))))
 exact ⟨_, _, .other, rfl, (hs.drop hb6).drop hb4, dA, by simp, aG (by decide +kernel), .inr ⟨rfl, fun len => by simp [body, (hr.bad hc0).2]⟩⟩
 have hk : k = .ok := by simpa using hc0
 subst hk
 obtain ⟨hname, rfl⟩ := hr.ok
 have hol := (name_some hname).2.2
 refine aW (dP (aJ (aX hs z_86 rfl (fun b8 w hb8 he8 hs => ?_))))
 rw [rep256] at hs
 refine aH (aF (dP (dM rfl rfl (dM rfl rfl (aZ ok_151 rfl rfl (c_nameUnpack (pre := []) (post := []) hG hs.isIn hb rfl (by have := hs.g 0 rfl; rw [List.nil_append, List.append_nil]; exact this) (hs.off (k := 0) rfl) o rfl (by omega) (by omega)) rfl (fun v31 w HF => ?_))))))
 obtain ⟨o2, k, e, out2, z, rfl, he, ho2, hz2, hc, hr⟩ := HF
 replace hs := hs.frame1 (k := 0) rfl rfl hc
 rw [List.nil_append, List.append_nil] at hs
 have hnl2 := cM (n := z) (Nat.le_trans ho2 (by decide : 254 ≤ 255))
 refine dM rfl rfl (dO rfl rfl rfl (dO rfl rfl rfl (dN rfl rfl (dN rfl rfl (aH (dP (dM rfl rfl (lp (bB he rfl) rfl (aH (bH rfl (fun hc1 => ?_) (fun hc1 => ?_)))))))))))
 refine dP (lp (bM (vs := []) (ps := []) rfl bz_173) rfl (dM rfl rfl (lp (bL rfl (by (simp only [List.all_cons, List.all_nil, he.oneCell]; rfl)) (eI _ _)) rfl (aJ (cR hs rfl rfl rfl (fun b39 w hb39 hbe39 hs => ?_))))))
 replace hs := hs.drop hb39
 refine lp (cG Tryz.underlying139 (fun _ h => by cases h) rfl) rfl (aJ (dR 2 hs k_173 rfl rfl rfl (by simp) (by simp [cM]) (aG (by decide +kernel)) rfl (fun w hs => dN rfl rfl (aH (aV ⟨_, fX ⟨_, rfl, aP k_173 (hs.g 2 rfl) (by simp)⟩ rfl, ?_⟩)))))
 exact ⟨_, _, .other, rfl, ((hs.drop hb8).drop hb6).drop hb4, dA, by simp, aG (by decide +kernel), .inr ⟨rfl, fun len => by simp [body, hname, (hr.bad hc1).2]⟩⟩
 have hk : k = .ok := by simpa using hc1
 subst hk
 obtain ⟨hname2, rfl⟩ := hr.ok
 have hol2 := (name_some hname2).2.2
 refine aW (dP (dM rfl rfl (dM rfl rfl (aZ ok_194 rfl rfl (c_unpackUint32 hG hs.isIn hb (o2) (by omega) (by omega) (by omega)) rfl (fun v44 w HF => ?_)))))
 obtain ⟨hc, x1, o3, k, e, rfl, he, hr⟩ := HF
 replace hs := hs.frame hc
 refine dM rfl rfl (dO rfl rfl rfl (dO rfl rfl rfl (dO rfl rfl rfl (dN rfl rfl (dN rfl rfl (dN rfl rfl (aH (aF (dP (dM rfl rfl (lp (bB he rfl) rfl (aH (bH rfl (fun hc2 => ?_) (fun hc2 => ?_))))))))))))))
 refine dP (lp (bM (vs := []) (ps := []) rfl bz_173) rfl (dM rfl rfl (lp (bL rfl (by (simp only [List.all_cons, List.all_nil, he.oneCell]; rfl)) (eI _ _)) rfl (aJ (cR hs rfl rfl rfl (fun b53 w hb53 hbe53 hs => ?_))))))
 replace hs := hs.drop hb53
 refine lp (cG Tryz.underlying139 (fun _ h => by cases h) rfl) rfl (aJ (dR 2 hs k_173 rfl rfl rfl (by simp) (by simp [cM]) (aG (by decide +kernel)) rfl (fun w hs => dN rfl rfl (aH (aV ⟨_, fX ⟨_, rfl, aP k_173 (hs.g 2 rfl) (by simp)⟩ rfl, ?_⟩)))))
 exact ⟨_, _, .other, rfl, ((hs.drop hb8).drop hb6).drop hb4, dA, by simp, aG (by decide +kernel), .inr ⟨rfl, fun len => by simp [body, hname, hname2, (hr.bad hc2).2]⟩⟩
 have hk : k = .ok := by simpa using hc2
 subst hk
 obtain ⟨hx1, rfl, hxe, hl0⟩ := hr.ok
 refine aW (dP (dM rfl rfl (dM rfl rfl (aZ ok_194 rfl rfl (c_unpackUint32 hG hs.isIn hb (o2 + 4) (by omega) (by omega) (by omega)) rfl (fun v58 w HF => ?_)))))
 obtain ⟨hc, x2, o3, k, e, rfl, he, hr⟩ := HF
 replace hs := hs.frame hc
 refine dM rfl rfl (dO rfl rfl rfl (dO rfl rfl rfl (dO rfl rfl rfl (dN rfl rfl (dN rfl rfl (dN rfl rfl (aH (aF (dP (dM rfl rfl (lp (bB he rfl) rfl (aH (bH rfl (fun hc3 => ?_) (fun hc3 => ?_))))))))))))))
 refine dP (lp (bM (vs := []) (ps := []) rfl bz_173) rfl (dM rfl rfl (lp (bL rfl (by (simp only [List.all_cons, List.all_nil, he.oneCell]; rfl)) (eI _ _)) rfl (aJ (cR hs rfl rfl rfl (fun b67 w hb67 hbe67 hs => ?_))))))
 replace hs := hs.drop hb67
 refine lp (cG Tryz.underlying139 (fun _ h => by cases h) rfl) rfl (aJ (dR 2 hs k_173 rfl rfl rfl (by simp) (by simp [cM]) (aG (by decide +kernel)) rfl (fun w hs => dN rfl rfl (aH (aV ⟨_, fX ⟨_, rfl, aP k_173 (hs.g 2 rfl) (by simp)⟩ rfl, ?_⟩)))))
 exact ⟨_, _, .other, rfl, ((hs.drop hb8).drop hb6).drop hb4, dA, by simp, aG (by decide +kernel), .inr ⟨rfl, fun len => by simp [body, hname, hname2, hx1, (hr.bad hc3).2]⟩⟩
 have hk : k = .ok := by simpa using hc3
 subst hk
 obtain ⟨hx2, rfl, hxe, hl0⟩ := hr.ok
 refine aW (dP (dM rfl rfl (dM rfl rfl (aZ ok_194 rfl rfl (c_unpackUint32 hG hs.isIn hb (o2 + 8) (by omega) (by omega) (by omega)) rfl (fun v72 w HF => ?_)))))
 obtain ⟨hc, x3, o3, k, e, rfl, he, hr⟩ := HF
 replace hs := hs.frame hc
 refine dM rfl rfl (dO rfl rfl rfl (dO rfl rfl rfl (dO rfl rfl rfl (dN rfl rfl (dN rfl rfl (dN rfl rfl (aH (aF (dP (dM rfl rfl (lp (bB he rfl) rfl (aH (bH rfl (fun hc4 => ?_) (fun hc4 => ?_))))))))))))))
 refine dP (lp (bM (vs := []) (ps := []) rfl bz_173) rfl (dM rfl rfl (lp (bL rfl (by (simp only [List.all_cons, List.all_nil, he.oneCell]; rfl)) (eI _ _)) rfl (aJ (cR hs rfl rfl rfl (fun b81 w hb81 hbe81 hs => ?_))))))
 replace hs := hs.drop hb81
 refine lp (cG Tryz.underlying139 (fun _ h => by cases h) rfl) rfl (aJ (dR 2 hs k_173 rfl rfl rfl (by simp) (by simp [cM]) (aG (by decide +kernel)) rfl (fun w hs => dN rfl rfl (aH (aV ⟨_, fX ⟨_, rfl, aP k_173 (hs.g 2 rfl) (by simp)⟩ rfl, ?_⟩)))))
 exact ⟨_, _, .other, rfl, ((hs.drop hb8).drop hb6).drop hb4, dA, by simp, aG (by decide +kernel), .inr ⟨rfl, fun len => by simp [body, hname, hname2, hx1, hx2, (hr.bad hc4).2]⟩⟩
 have hk : k = .ok := by simpa using hc4
 subst hk
 obtain ⟨hx3, rfl, hxe, hl0⟩ := hr.ok
 refine aW (dP (dM rfl rfl (dM rfl rfl (aZ ok_194 rfl rfl (c_unpackUint32 hG hs.isIn hb (o2 + 12) (by omega) (by omega) (by omega)) rfl (fun v86 w HF => ?_)))))
 obtain ⟨hc, x4, o3, k, e, rfl, he, hr⟩ := HF
 replace hs := hs.frame hc
 refine dM rfl rfl (dO rfl rfl rfl (dO rfl rfl rfl (dO rfl rfl rfl (dN rfl rfl (dN rfl rfl (dN rfl rfl (aH (aF (dP (dM rfl rfl (lp (bB he rfl) rfl (aH (bH rfl (fun hc5 => ?_) (fun hc5 => ?_))))))))))))))
 refine dP (lp (bM (vs := []) (ps := []) rfl bz_173) rfl (dM rfl rfl (lp (bL rfl (by (simp only [List.all_cons, List.all_nil, he.oneCell]; rfl)) (eI _ _)) rfl (aJ (cR hs rfl rfl rfl (fun b95 w hb95 hbe95 hs => ?_))))))
 replace hs := hs.drop hb95
 refine lp (cG Tryz.underlying139 (fun _ h => by cases h) rfl) rfl (aJ (dR 2 hs k_173 rfl rfl rfl (by simp) (by simp [cM]) (aG (by decide +kernel)) rfl (fun w hs => dN rfl rfl (aH (aV ⟨_, fX ⟨_, rfl, aP k_173 (hs.g 2 rfl) (by simp)⟩ rfl, ?_⟩)))))
 exact ⟨_, _, .other, rfl, ((hs.drop hb8).drop hb6).drop hb4, dA, by simp, aG (by decide +kernel), .inr ⟨rfl, fun len => by simp [body, hname, hname2, hx1, hx2, hx3, (hr.bad hc5).2]⟩⟩
 have hk : k = .ok := by simpa using hc5
 subst hk
 obtain ⟨hx4, rfl, hxe, hl0⟩ := hr.ok
 refine aW (dP (dM rfl rfl (dM rfl rfl (aZ ok_194 rfl rfl (c_unpackUint32 hG hs.isIn hb (o2 + 16) (by omega) (by omega) (by omega)) rfl (fun v100 w HF => ?_)))))
 obtain ⟨hc, x5, o3, k, e, rfl, he, hr⟩ := HF
 replace hs := hs.frame hc
 refine dM rfl rfl (dO rfl rfl rfl (dO rfl rfl rfl (dO rfl rfl rfl (dN rfl rfl (dN rfl rfl (dN rfl rfl (aH (aF (dP (dM rfl rfl (lp (bB he rfl) rfl (aH (bH rfl (fun hc6 => ?_) (fun hc6 => ?_))))))))))))))
 refine dP (lp (bM (vs := []) (ps := []) rfl bz_173) rfl (dM rfl rfl (lp (bL rfl (by (simp only [List.all_cons, List.all_nil, he.oneCell]; rfl)) (eI _ _)) rfl (aJ (cR hs rfl rfl rfl (fun b109 w hb109 hbe109 hs => ?_))))))
 replace hs := hs.drop hb109
 refine lp (cG Tryz.underlying139 (fun _ h => by cases h) rfl) rfl (aJ (dR 2 hs k_173 rfl rfl rfl (by simp) (by simp [cM]) (aG (by decide +kernel)) rfl (fun w hs => dN rfl rfl (aH (aV ⟨_, fX ⟨_, rfl, aP k_173 (hs.g 2 rfl) (by simp)⟩ rfl, ?_⟩)))))
 exact ⟨_, _, .other, rfl, ((hs.drop hb8).drop hb6).drop hb4, dA, by simp, aG (by decide +kernel), .inr ⟨rfl, fun len => by simp [body, hname, hname2, hx1, hx2, hx3, hx4, (hr.bad hc6).2]⟩⟩
 have hk : k = .ok := by simpa using hc6
 subst hk
 obtain ⟨hx5, rfl, hxe, hl0⟩ := hr.ok
 refine aW (dP (lp (aO rfl (aP k_86 (hs.g 1 rfl) hnl)) rfl (lp (aO rfl (aP k_86 (hs.g 0 rfl) hnl2)) rfl (dM rfl rfl (dM rfl rfl (dM rfl rfl (dM rfl rfl (dM rfl rfl (lp (fO [nmC out out.length, nmC out2 out2.length, [.int .u32 x1], [.int .u32 x2], [.int .u32 x3], [.int .u32 x4], [.int .u32 x5]] st_173 rfl rfl rfl (by simp [hnl, hnl2]) (show _ = nmC out out.length ++ nmC out2 out2.length ++ [.int .u32 x1, .int .u32 x2, .int .u32 x3, .int .u32 x4, .int .u32 x5] by simp)) rfl ?_)))))))))
 have hln : (nmC out out.length ++ nmC out2 out2.length ++ [Value.int .u32 x1, .int .u32 x2, .int .u32 x3, .int .u32 x4, .int .u32 x5]).length = 517 := by simp [hnl, hnl2]
 have hfl : Flat (nmC out out.length ++ nmC out2 out2.length ++ [Value.int .u32 x1, .int .u32 x2, .int .u32 x3, .int .u32 x4, .int .u32 x5]) := fD (fD (eU _ _) (eU _ _)) (aG rfl)
 refine aJ (dR 2 hs k_173 rfl rfl rfl hln (by simp [cM]) hfl rfl (fun w hs => dN rfl rfl (aH (aV ⟨_, fX ⟨_, rfl, aP k_173 (hs.g 2 rfl) hln⟩ rfl, ?_⟩))))
 exact ⟨_, _, .ok, rfl, ((hs.drop hb8).drop hb6).drop hb4, rfl, hln, hfl, .inl ⟨_, rfl, fun len => ⟨by simp only [body, hname, hname2, hx1, hx2, hx3, hx4, hx5, Option.bind_some, Option.map_some]; rfl, rfl, ho, ho2⟩⟩⟩
end
end Go.Proofs.YtgpfjlfkaoffeaaGreatDoor
namespace Go.Proofs.YtgpfjlfkaoffeaaGreatDoor
open Go
section
variable {A : Nat → Addr} {V : Vw} {w0 : World} {l : List UInt8} {mv : Value} {off : Int}
theorem c_unpackUnknown (hG : Gl A V) (hV : V.In w0) (hb : RB V mv l) (t len : Nat) {lv : Int} (hlv : lv = len) (hlen : len < 65536) (n : Nat) (hn : off = n) (h1 : n ≤ 1152921504606846970) (h2 : l.length ≤ 1152921504606846900) :
  eC Tryz.prog 172 #[.int .u16 t, mv, .int .i64 off, .int .u16 lv] w0 fun v w' => ∃ (V' : Vw) (cs : List Value) (e : Value) (k : EK), v = .tuple #[.agg cs.toArray, e] ∧ St ⟨w0, V, V'⟩ w' [] ∧ ErrV A e k ∧ cs.length = 2 ∧ Flat cs ∧
   ((∃ r, k = .ok ∧ body l n 13 len = some r ∧ fL V' 13 t r cs) ∨ (k = .other ∧ body l n 13 len = none)) := by
 subst hn hlv
 have hs := St.start hV
 refine aT [_, _, _, _] Tryz.func172 Tryz.ntmps172 Tryz.results172 rfl rfl (dP (aJ (aX hs z_221 rfl (fun b8 w hb8 he8 hs => dN rfl rfl (aH (dP (dM rfl rfl (dM rfl rfl (aJ (o_make (l := len) (c := len) el_23 hs rfl rfl rfl rfl (by omega) (by omega) (by omega) rfl (fun b15 w hb15 he15 hs => ?_)))))))))))
 rw [made_one] at hs
 refine lp (bL rfl (by rfl) (bu_221_0_1 _ _)) rfl (aJ (aX hs z_221 rfl (fun b10 w hb10 he10 hs => aJ (dR 0 hs k_221 rfl rfl rfl (by simp) (by simp) (aG rfl) rfl (fun w hs => aH (aF (dP (dM rfl rfl (dM rfl rfl (lp (aR fo_221_1 rfl) rfl (lp (aO rfl (aQ k_23 (hs.g 0 rfl) rfl)) rfl (aZ ok_193 rfl rfl (c_unpackBytes (m := len) (c := len) hG hs.isIn hb (List.length_replicate ..) (hs.g 1 rfl) (hs.off (k := 1) rfl) n rfl (by omega) (by omega) (by omega)) rfl (fun v22 w HF => ?_)))))))))))))
 obtain ⟨o, k, e, cs', rfl, he, hc, hr⟩ := HF
 replace hs := hs.frame1 (k := 1) rfl rfl hc
 refine dM rfl rfl (dO rfl rfl rfl (dO rfl rfl rfl (dN rfl rfl (dN rfl rfl (aH (dP (dM rfl rfl (lp (bB he rfl) rfl (aH (bH rfl (fun hc0 => ?_) (fun hc0 => ?_)))))))))))
 refine dP (lp (bM (vs := []) (ps := []) rfl bz_221) rfl (dM rfl rfl (aJ (dR 2 hs k_221 rfl rfl rfl (by simp) (by simp) (aG rfl) rfl (fun w hs => dN rfl rfl (aH (aV ⟨_, fX ⟨_, rfl, aP k_221 (hs.g 2 rfl) (by simp)⟩ rfl, ?_⟩)))))))
 have hno : k = .other ∧ rdBytes l n len = none := by
  rcases hr with ⟨h, _⟩ | ⟨h, h', _⟩
  exact absurd h hc0
  exact ⟨h, h'⟩
 exact ⟨V, _, _, k, rfl, ((hs.drop hb10).drop hb15).drop hb8, he, by simp, aG rfl, .inr ⟨hno.1, by simp [body, hno.2]⟩⟩
 have hk : k = .ok := by simpa using hc0
 subst hk
 obtain ⟨hbytes, rfl⟩ : rdBytes l n len = some (seg l n len) ∧ cs' = (seg l n len).map eA := by
  rcases hr with ⟨_, h⟩ | ⟨h, _⟩
  exact h
  cases h
 have hsl : (seg l n len).length = len := by
  unfold rdBytes at hbytes
  split at hbytes
  exact seg_len (by assumption)
  cases hbytes
 refine aW (dP (lp (aO rfl (aP k_221 (hs.g 0 rfl) (by simp))) rfl (aJ (dR 2 hs k_221 rfl rfl rfl (by simp) (by simp) (aG rfl) rfl (fun w hs => dN rfl rfl (aH (aV ⟨_, fX ⟨_, rfl, aP k_221 (hs.g 2 rfl) (by simp)⟩ rfl, ?_⟩)))))))
 replace hs := hs.drop hb10
 obtain ⟨V', hle, hbv, hs⟩ := hs.give hb15
 have hR : RB V' (.slice (some ⟨b15, 0, none⟩) len len) (seg l n len) := by
  have := RB.of_block (V := V') (b := b15) (cap := len) (l := seg l n len) (sp := []) (by rw [List.append_nil]; exact hbv) (by omega)
  rwa [hsl] at this
 exact ⟨V', _, _, .ok, rfl, hs.drop hb8, rfl, by simp, aG rfl, .inl ⟨_, rfl, by simp only [body, hbytes, Option.map_some]; rfl, _, rfl, hR⟩⟩
set_option maxHeartbeats 1000000 in
theorem c_unpackTXT (hG : Gl A V) (hV : V.In w0) (hb : RB V mv l) (len : Nat) {lv : Int} (hlv : lv = len) (hlen : len < 65536) (n : Nat) (hn : off = n) (h1 : n ≤ 1152921504606746970) (h2 : l.length ≤ 1152921504606746900) :
  eC Tryz.prog 166 #[mv, .int .i64 off, .int .u16 lv] w0 fun v w' => ∃ (V' : Vw) (cs : List Value) (e : Value) (k : EK), v = .tuple #[.agg cs.toArray, e] ∧ St ⟨w0, V, V'⟩ w' [] ∧ ErrV A e k ∧ cs.length = 1 ∧ Flat cs ∧
   ((∃ r, k = .ok ∧ body l n 7 len = some r ∧ fL V' 7 0 r cs) ∨ (k = .other ∧ body l n 7 len = none)) := by
 subst hn hlv
 have hs := St.start hV
 refine aT [_, _, _] Tryz.func166 Tryz.ntmps166 Tryz.results166 rfl rfl (dP (aJ (aX hs z_188 rfl (fun b6 w hb6 he6 hs => dN rfl rfl (aH (dP (aJ (o_make (l := 0) (c := 1) el_28 hs rfl rfl rfl rfl (by omega) (by omega) (by omega) rfl (fun b12 w hb12 he12 hs => ?_)))))))))
 rw [made_one] at hs
 have hsl : Sl 9 1 ⟨w0, V, V⟩ w [(b6, .cells [Value.slice none 0 0].toArray 188 (0, 0))] (.slice (some ⟨b12, 0, none⟩) 0 1) 0 [] := ⟨rfl, .inr ⟨b12, 1, _, rfl, rfl, by omega, by decide, hb12, hs⟩⟩
 refine dN rfl rfl (aH (aF (dP (dN rfl rfl (aH (bQ (dC (fun g : Nat × List (List UInt8) × Value => eH (eH (eH (eH (eH (eH emp 9 (.int .u16 (g.1 - n : Nat))) 8 g.2.2) 2 (.int .u16 len)) 1 (.int .i64 g.1)) 0 mv) 6 (.pointer (some ⟨b6, 0, none⟩))) (fun g w' => Sl 9 1 ⟨w0, V, V⟩ w' [(b6, .cells [Value.slice none 0 0].toArray 188 (0, 0))] g.2.2 g.2.1.length (g.2.1.map fR) ∧ textsS l g.1 (n + len) g.2.1 = textsS l n (n + len) [] ∧ n ≤ g.1 ∧ g.1 ≤ n + len ∧ g.2.1.length + n ≤ g.1) (fun g => n + len - g.1) (n, [], .slice (some ⟨b12, 0, none⟩) 0 1) (aL rfl (aL rfl (aL rfl (aL rfl (aL rfl (aL (by simp only [Nat.sub_self]; rfl) (bG _))))))) ⟨hsl, rfl, Nat.le_refl _, by omega, by simp⟩ ?_)))))))
 clear hsl hs
 rintro ⟨i, acc, sv⟩ w ⟨hs, hp, hi0, hi1, hacc⟩
 simp only at hs hp hi0 hi1 hacc ⊢
 refine aF (dP (dM rfl rfl (dM rfl rfl (lp (cY rfl rfl) rfl (aH (bH rfl (fun hc0 => ?_) (fun hc0 => ?_)))))))
 refine aW (bQ (dP (dN rfl rfl (aH (dP (dN rfl rfl (aH (aF (dP (dM rfl rfl (dM rfl rfl (aZ ok_195 rfl rfl (c_unpackText hG hs.isIn hb i rfl (by omega) (by omega)) rfl (fun v19 w HF => ?_)))))))))))))
 obtain ⟨hc, t, o, k, e, rfl, he, hr⟩ := HF
 replace hs := hs.frame hc
 refine dM rfl rfl (dO rfl rfl rfl (dO rfl rfl rfl (dO rfl rfl rfl (dN rfl rfl (dN rfl rfl (dN rfl rfl (aH (dP (dM rfl rfl (lp (bB he rfl) rfl (aH (bH rfl (fun hc1 => ?_) (fun hc1 => ?_)))))))))))))
 replace hs := hs.st
 refine dP (lp (bM (vs := []) (ps := []) rfl bz_188) rfl (dM rfl rfl (lp (bL rfl (by (simp only [List.all_cons, List.all_nil, he.oneCell]; rfl)) (eI _ _)) rfl (aJ (cR hs rfl rfl rfl (fun b28 w hb28 hbe28 hs => ?_))))))
 replace hs := hs.drop hb28
 refine lp (cG Tryz.underlying139 (fun _ h => by cases h) rfl) rfl (aJ (dR 0 hs k_188 rfl rfl rfl (by simp) (by simp) (aG rfl) rfl (fun w hs => dN rfl rfl (aH (aV ⟨_, fX ⟨_, rfl, aP k_188 (hs.g 0 rfl) (by simp)⟩ rfl, ?_⟩)))))
 have hno : k = .other ∧ ¬ (i < l.length ∧ i + 1 + eB l i ≤ l.length) := by
  rcases hr with ⟨h, _⟩ | ⟨h, h', _⟩
  exact absurd h hc1
  exact ⟨h, h'⟩
 exact ⟨V, _, _, .other, rfl, hs.drop hb6, dA, by simp, aG rfl, .inr ⟨rfl, by simp only [body]; rw [← hp, textsS, dif_pos (by omega), if_neg (by omega)]; rfl⟩⟩
 have hk : k = .ok := by simpa using hc1
 subst hk
 obtain ⟨hil, hfit, rfl, rfl⟩ : i < l.length ∧ i + 1 + eB l i ≤ l.length ∧ t = seg l (i + 1) (eB l i) ∧ o = i + 1 + eB l i := by
  rcases hr with ⟨_, h⟩ | ⟨h, _⟩
  exact h
  cases h
 have hb8 := cU l i
 have hsz : (fB (seg l (i + 1) (eB l i))).size = eB l i := by rw [ofBytes_size, seg_len hfit]
 refine aW (aF (dP (dM rfl rfl (dM rfl rfl (lp (po_sub rfl rfl (u16c (c := n + len - i) (by omega) (by omega))) rfl (dM rfl rfl (lp (po_len_str Tryz.underlying9 rfl) rfl (lp (bY Tryz.underlying3 Tryz.underlying22 rfl (u16c (c := eB l i) (by rw [hsz]) (by omega))) rfl (lp (bN rfl rfl (u16c (c := eB l i + 1) (by omega) (by omega))) rfl (lp (cY rfl rfl) rfl (aH (bH rfl (fun hc2 => ?_) (fun hc2 => ?_)))))))))))))
 replace hs := hs.st
 have hc2' : n + len < i + 1 + eB l i := by omega
 refine aF (bV hs [1] mixed (fun w hs => dI 0 rfl (fun w => (bM (vs := []) (ps := []) rfl bz_188)) rfl rfl (dJ 1 rfl hs rfl (fun w hs => (aO rfl (bR k_57 (hG.ld hs.isIn (g := 13) rfl)))) rfl (dL 2 rfl (dR 0 hs k_188 rfl rfl rfl (by simp) (by simp) (aG rfl) rfl (fun w hs => ⟨fun _ => hs, dI 3 rfl (fun w => aD rfl) rfl rfl (bS (by decide +kernel) (aV ⟨_, fX ⟨_, rfl, aP k_188 (hs.g 0 rfl) (by simp)⟩ rfl, ?_⟩))⟩))))))
 exact ⟨V, _, _, .other, rfl, hs.drop hb6, errv_g (g := 13) rfl (by decide) (by decide), by simp, aG rfl, .inr ⟨rfl, by simp only [body]; rw [← hp, textsS, dif_pos (by omega), if_neg (by omega)]; rfl⟩⟩
 have hfit2 : i + 1 + eB l i ≤ n + len := by omega
 refine aW (dP (dM rfl rfl (dM rfl rfl (lp (po_len_str Tryz.underlying9 rfl) rfl (lp (bY Tryz.underlying3 Tryz.underlying22 rfl (u16c (c := eB l i) (by rw [hsz]) (by omega))) rfl (lp (bN rfl rfl (u16c (c := eB l i + 1) (by omega) (by omega))) rfl (lp (bN rfl rfl (u16c (c := i + 1 + eB l i - n) (by omega) (by omega))) rfl (dN rfl rfl (aH (aB (dM rfl rfl (dM rfl rfl (l_app1 (cl := [fR (seg l (i + 1) (eB l i))]) el_28 hs (fun _ => rfl) rfl rfl rfl (aG rfl) (by omega) (by omega) (by omega) rfl rfl (fun b48 sv' w hs => ?_))))))))))))))
 skip
 refine dN rfl rfl (aH ?_)
 have hs' : Sl 9 1 ⟨w0, V, V⟩ w [(b6, .cells [Value.slice none 0 0].toArray 188 (0, 0))] sv' (acc ++ [seg l (i + 1) (eB l i)]).length ((acc ++ [seg l (i + 1) (eB l i)]).map fR) := by
  rw [List.length_append, List.map_append]; exact hs
 exact ⟨(i + 1 + eB l i, acc ++ [seg l (i + 1) (eB l i)], sv'), aL rfl (aL rfl (aL rfl (aL rfl (aL rfl (aL rfl (bG _)))))), ⟨hs', by
  rw [← hp]
  conv => rhs; rw [textsS, dif_pos (by omega), if_pos ⟨hil, hfit, hfit2⟩], by simp only; omega, by simp only; omega, by simp; omega⟩, by simp only; omega⟩
 refine eT (aF ?_)
 obtain ⟨V', hle, hT, hs⟩ := hs.give
 have hT' : fF V' sv acc := hT
 refine aB (dM rfl rfl (lp (bL rfl (by simp only [List.all_cons, List.all_nil, hT'.oneCell]; rfl) (bu_188_0 _)) rfl (aJ (dR 0 hs k_188 rfl rfl rfl rfl (by simp) (bX hT'.oneCell eQ) rfl (fun w hs => dN rfl rfl (aH (aV ⟨_, fX ⟨_, rfl, aP k_188 (hs.g 0 rfl) rfl⟩ rfl, ?_⟩)))))))
 exact ⟨V', _, _, .ok, rfl, hs.drop hb6, rfl, rfl, bX hT'.oneCell eQ, .inl ⟨_, rfl, by simp only [body]; rw [← hp, textsS, dif_neg (by omega)]; rfl, _, rfl, hT'⟩⟩
end
end Go.Proofs.YtgpfjlfkaoffeaaGreatDoor
namespace Go.Proofs.YtgpfjlfkaoffeaaGreatDoor
open Go
section
variable {A : Nat → Addr} {V : Vw} {w0 : World} {l : List UInt8} {mv : Value} {off : Int}
def optE (b6 n len : Nat) (mv : Value) (i : Nat) (sv : Value) : Env :=
 eH (eH (eH (eH (eH (eH emp 9 (.int .i64 n)) 8 sv) 2 (.int .u16 len)) 1 (.int .i64 i)) 0 mv) 6 (.pointer (some ⟨b6, 0, none⟩))
set_option maxHeartbeats 1000000 in
theorem c_unpackOPT (hG : Gl A V) (hV : V.In w0) (hb : RB V mv l) (len : Nat) {lv : Int} (hlv : lv = len) (hlen : len < 65536) (n : Nat) (hn : off = n) (h1 : n ≤ 1152921504606746970) (h2 : l.length ≤ 1152921504606746900) :
  eC Tryz.prog 169 #[mv, .int .i64 off, .int .u16 lv] w0 fun v w' => ∃ (V' : Vw) (cs : List Value) (e : Value) (k : EK), v = .tuple #[.agg cs.toArray, e] ∧ St ⟨w0, V, V'⟩ w' [] ∧ ErrV A e k ∧ cs.length = 1 ∧ Flat cs ∧
   ((∃ r, k = .ok ∧ body l n 10 len = some r ∧ fL V' 10 0 r cs) ∨ (k = .other ∧ body l n 10 len = none)) := by
 subst hn hlv
 obtain ⟨a, cap, rfl, hcap, ha⟩ := hb.form
 have hs := St.start hV
 refine aT [_, _, _] Tryz.func169 Tryz.ntmps169 Tryz.results169 rfl rfl (dP (aJ (aX hs z_205 rfl (fun b6 w hb6 he6 hs => dN rfl rfl (aH (dP (dN rfl rfl (aH (aF (dP (dM rfl rfl (dN rfl rfl (aH (bQ ?_))))))))))))))
 refine dC (fun g : Nat × List fU × List Value × Value × Vw => optE b6 n len (.slice a l.length cap) g.1 g.2.2.2.1) (fun g w' => Sl 304 2 ⟨w0, V, g.2.2.2.2⟩ w' [(b6, .cells [Value.slice none 0 0].toArray 205 (0, 0))] g.2.2.2.1 g.2.1.length g.2.2.1 ∧ Rows 2 (RPair g.2.2.2.2) g.2.1 g.2.2.1 ∧ V.le g.2.2.2.2 ∧ optsS l g.1 (n + len) g.2.1 = optsS l n (n + len) [] ∧ n ≤ g.1 ∧ g.1 ≤ n + len + 65539 ∧ 4 * g.2.1.length + n ≤ g.1) (fun g => n + len - g.1) (n, [], [], .slice none 0 0, V) (aL rfl (aL rfl (aL rfl (aL rfl (aL rfl (aL rfl (bG _))))))) ⟨Sl.nil hs, rfl, V.le_refl, rfl, Nat.le_refl _, by omega, by simp⟩ ?_
 clear hs
 rintro ⟨i, acc, xs, sv, Vc⟩ w ⟨hsl, hrows, hle, hp, hi0, hi1, hacc⟩
 simp only at hsl hrows hle hp hi0 hi1 hacc ⊢
 replace hG := hG.mono hle
 replace hb := hb.mono hle
 obtain ⟨X, hX, hs⟩ := hsl.open
 refine aF (dP (dM rfl rfl (dM rfl rfl (dM rfl rfl (lp (bY Tryz.underlying22 Tryz.underlying3 rfl (fV (c := len) rfl (by omega))) rfl (lp (bN rfl rfl (fV (c := n + len) (by omega) (by omega))) rfl (lp (cY rfl rfl) rfl (aH (bH rfl (fun hc0 => ?_) (fun hc0 => ?_))))))))))
 · refine aW (bQ (dP (dN rfl rfl (aH (dP (aJ (aX hs z_304 rfl (fun b11 w hb11 he11 hs => aH (dP (dM rfl rfl (dM rfl rfl (aZ ok_149 rfl rfl (cP hG hs.isIn hb i rfl (by omega) (by omega)) rfl (fun v23 w HF => ?_)))))))))))))
   obtain ⟨hc, x, o, k, e, rfl, he, hr⟩ := HF
   replace hs := hs.frame hc
   refine dM rfl rfl (dO rfl rfl rfl (dO rfl rfl rfl (dO rfl rfl rfl (lp (aR fo_304_0 rfl) rfl (aJ (dQ 0 hs eS rfl rfl rfl rfl rfl rfl rfl (fun w hs => dN rfl rfl (dN rfl rfl (aH (aF (dP (dM rfl rfl (lp (bB he rfl) rfl (aH ?_))))))))))))))
   refine bH rfl (fun hc1 => ?_) (fun hc1 => ?_)
   replace hs := (SlX.close (L := [_, _]) hX hs).st.drop hb11
   refine dP (lp (bM (vs := []) (ps := []) rfl bz_205) rfl (dM rfl rfl (lp (bL rfl (by (simp only [List.all_cons, List.all_nil, he.oneCell]; rfl)) (eI _ _)) rfl (aJ (cR hs rfl rfl rfl (fun b33 w hb33 hbe33 hs => ?_))))))
   replace hs := hs.drop hb33
   refine lp (cG Tryz.underlying139 (fun _ h => by cases h) rfl) rfl (aJ (dR 0 hs k_205 rfl rfl rfl (by simp) (by simp) (aG (by decide +kernel)) rfl (fun w hs => dN rfl rfl (aH (aV ⟨_, fX ⟨_, rfl, aP k_205 (hs.g 0 rfl) (by simp)⟩ rfl, ?_⟩)))))
   have hno := (hr.badlen hc1).2
   exact ⟨Vc, _, _, .other, rfl, hs.drop hb6, dA, by simp, aG rfl, .inr ⟨rfl, by simp only [body]; rw [← hp, optsS, dif_pos (by omega), if_neg (by omega)]; rfl⟩⟩
   · have hk : k = .ok := by simpa using hc1
     subst hk
     obtain ⟨hx, rfl, rfl, hl1⟩ := hr.ok
     refine aW (dP (dN rfl rfl (aH (dP (dM rfl rfl (dM rfl rfl (aZ ok_149 rfl rfl (cP hG hs.isIn hb (i + 2) rfl (by omega) (by omega)) rfl (fun v38 w HF => ?_))))))))
     obtain ⟨hc, y, o, k, e, rfl, he, hr⟩ := HF
     replace hs := hs.frame hc
     refine dM rfl rfl (dO rfl rfl rfl (dO rfl rfl rfl (dO rfl rfl rfl (dN rfl rfl (dN rfl rfl (dN rfl rfl (aH (aF (dP (dM rfl rfl (lp (bB he rfl) rfl (aH (bH rfl (fun hc2 => ?_) (fun hc2 => ?_))))))))))))))
     replace hs := (SlX.close (L := [_, _]) hX hs).st.drop hb11
     refine dP (lp (bM (vs := []) (ps := []) rfl bz_205) rfl (dM rfl rfl (lp (bL rfl (by (simp only [List.all_cons, List.all_nil, he.oneCell]; rfl)) (eI _ _)) rfl (aJ (cR hs rfl rfl rfl (fun b47 w hb47 hbe47 hs => ?_))))))
     replace hs := hs.drop hb47
     refine lp (cG Tryz.underlying139 (fun _ h => by cases h) rfl) rfl (aJ (dR 0 hs k_205 rfl rfl rfl (by simp) (by simp) (aG (by decide +kernel)) rfl (fun w hs => dN rfl rfl (aH (aV ⟨_, fX ⟨_, rfl, aP k_205 (hs.g 0 rfl) (by simp)⟩ rfl, ?_⟩)))))
     have hno := (hr.badlen hc2).2
     exact ⟨Vc, _, _, .other, rfl, hs.drop hb6, dA, by simp, aG rfl, .inr ⟨rfl, by simp only [body]; rw [← hp, optsS, dif_pos (by omega), if_neg (by omega)]; rfl⟩⟩
     · have hk : k = .ok := by simpa using hc2
       subst hk
       obtain ⟨hy, rfl, rfl, hl2⟩ := hr.ok
       have hyl := w16_lt l (i + 2)
       refine aW (dP (dM rfl rfl (aJ (o_make (l := w16 l (i + 2)) (c := w16 l (i + 2)) el_23 hs rfl rfl rfl rfl (by omega) (by omega) (by omega) rfl (fun b50 w hb50 he50 hs => ?_)))))
       rw [made_one] at hs
       refine lp (aR fo_304_1 rfl) rfl (aJ (dQ 1 hs k_23 rfl rfl rfl rfl rfl rfl rfl (fun w hs => aH (aF (aF ?_)))))
       have hsrc := (hb.part (i := i + 2 + 2) (m := l.length - (i + 2 + 2)) (by omega))
       have hlseg : (seg l (i + 2 + 2) (l.length - (i + 2 + 2))).length = l.length - (i + 2 + 2) := seg_len (by omega)
       obtain ⟨q, hq⟩ : ∃ q, q = min (l.length - (i + 2 + 2)) (w16 l (i + 2)) := ⟨_, rfl⟩
       have hq1 : q ≤ w16 l (i + 2) := by omega
       have hq2 : q ≤ l.length - (i + 2 + 2) := by omega
       have hseq := seg_take (l := l) (i := i + 2 + 2) hq2
       refine bV hs [1] mixed (fun w hs => dI 0 rfl (fun w => aR fo_304_1 rfl) rfl rfl (dJ 1 rfl hs rfl (fun w hs => (aO rfl (aQ k_23 (hs.g 1 rfl) rfl))) rfl (dI 2 rfl (fun w => aC rfl) rfl rfl (dI 3 rfl (fun w => aC rfl) rfl rfl (dI 4 rfl (fun w => (po_tailR (i + 2 + 2) es_23 rfl rfl rfl (by omega) hcap)) rfl rfl (dI 6 rfl (fun w => aC rfl) rfl rfl (dI 7 rfl (fun w => (bY Tryz.underlying22 Tryz.underlying3 rfl (fV (c := w16 l (i + 2)) rfl (by omega)))) rfl rfl (dL 5 rfl (o_copy (kk := 0) (k := q) (news := (seg l (i + 2 + 2) q).map eA) es_23 hs rfl rfl hsrc.len (by rw [hlseg, hq]) (by have := RB.fst (P := Tryz.prog) (k := q) hsrc hs.isIn (by omega); rwa [hseq] at this) (dH _) rfl (by simp; omega) rfl rfl (fun w hs => ⟨fun h => absurd h (by decide +kernel), dI 8 rfl (fun w => po_neq rfl rfl) rfl rfl (bS (by decide +kernel) (bH rfl (fun hc3 => ?_) (fun hc3 => ?_)))⟩))))))))))
       · replace hs := ((SlX.close (L := [_, _, _]) hX hs).st.drop hb50).drop hb11
         refine aF (bV hs [1] mixed (fun w hs => dI 0 rfl (fun w => (bM (vs := []) (ps := []) rfl bz_205)) rfl rfl (dJ 1 rfl hs rfl (fun w hs => (aO rfl (bR k_57 (hG.ld hs.isIn (g := 13) rfl)))) rfl (dI 2 rfl (fun w => (bL rfl rfl (eI _ _))) rfl rfl (a_two 3 5 (by decide +kernel) rfl rfl ?_ ?_)))))
         refine cR hs rfl rfl rfl (fun b64 w hb64 hbe64 hs => ?_)
         replace hs := hs.drop hb64
         refine ⟨fun _ => hs, dI 4 rfl (fun w => (cG Tryz.underlying139 (fun _ h => by cases h) rfl)) rfl rfl (dL 5 rfl (dR 0 hs k_205 rfl rfl rfl (by simp) (by simp) (aG (by decide +kernel)) rfl (fun w hs => ⟨fun _ => hs, ?_⟩)))⟩
         rotate_left
         refine dR 0 hs k_205 rfl rfl rfl (by simp) (by simp) (aG (by decide +kernel)) rfl (fun w hs => ⟨fun _ => hs, dL 3 rfl (cR hs rfl rfl rfl (fun b64 w hb64 hbe64 hs => ?_))⟩)
         replace hs := hs.drop hb64
         refine ⟨fun _ => hs, dI 4 rfl (fun w => (cG Tryz.underlying139 (fun _ h => by cases h) rfl)) rfl rfl ?_⟩
         all_goals
          refine dI 6 rfl (fun w => aD rfl) rfl rfl (bS (by decide +kernel) (aV ⟨_, fX ⟨_, rfl, aP k_205 (hs.g 0 rfl) (by simp)⟩ rfl, ?_⟩))
          have hno : ¬ (i + 4 ≤ l.length ∧ i + 4 + w16 l (i + 2) ≤ l.length) := by omega
          exact ⟨Vc, _, _, .other, rfl, hs.drop hb6, dA, by simp, aG rfl, .inr ⟨rfl, by simp only [body]; rw [← hp, optsS, dif_pos (by omega), if_neg hno]; rfl⟩⟩
       have hqe : q = w16 l (i + 2) := by omega
       have hfit : i + 4 + w16 l (i + 2) ≤ l.length := by omega
       refine aW (dP (dM rfl rfl (dM rfl rfl (lp (bY Tryz.underlying22 Tryz.underlying3 rfl (fV (c := w16 l (i + 2)) rfl (by omega))) rfl (lp (bN rfl rfl (fV (c := i + 4 + w16 l (i + 2)) (by omega) (by omega))) rfl (dN rfl rfl (aH ?_)))))))
       obtain ⟨V', hle', hbv, hs⟩ := hs.give hb50
       have hR : RB V' (.slice (some ⟨b50, 0, none⟩) (w16 l (i + 2)) (w16 l (i + 2))) (seg l (i + 4) (w16 l (i + 2))) := by
        have hcell : (List.take 0 (List.replicate (w16 l (i + 2)) (Value.int .u8 0)) ++ (seg l (i + 2 + 2) q).map eA ++ List.drop (0 + q * 1) (List.replicate (w16 l (i + 2)) (Value.int .u8 0))) = (seg l (i + 4) (w16 l (i + 2))).map eA := by
         rw [hqe, List.take_zero, List.nil_append, List.drop_eq_nil_of_le (by simp), List.append_nil]
        rw [hcell] at hbv
        have h3 := RB.of_block (V := V') (b := b50) (cap := w16 l (i + 2)) (l := seg l (i + 4) (w16 l (i + 2))) (sp := []) (by rw [List.append_nil]; exact hbv) (by rw [seg_len hfit]; exact Nat.le_refl _)
        rwa [seg_len hfit] at h3
       refine aB (dM rfl rfl (lp (aO rfl (aP k_304 (hs.g 0 rfl) (by simp))) rfl (l_app1 (cl := [.int .u16 (w16 l i), .slice (some ⟨b50, 0, none⟩) (w16 l (i + 2)) (w16 l (i + 2))]) el_203 (SlX.close (L := [_, _]) hX hs) (fun _ => rfl) rfl rfl rfl (aG rfl) (by omega) (by omega) (by omega) rfl rfl (fun b72 sv' w hs => ?_))))
       skip
       refine dN rfl rfl (aH ?_)
       have hs' : Sl 304 2 ⟨w0, V, V'⟩ w [(b6, .cells [Value.slice none 0 0].toArray 205 (0, 0))] sv' (acc ++ [(⟨w16 l i, seg l (i + 4) (w16 l (i + 2))⟩ : fU)]).length (xs ++ [.int .u16 (w16 l i), .slice (some ⟨b50, 0, none⟩) (w16 l (i + 2)) (w16 l (i + 2))]) := by
        rw [List.length_append]; exact hs.drop hb11
       exact ⟨(i + 4 + w16 l (i + 2), acc ++ [(⟨w16 l i, seg l (i + 4) (w16 l (i + 2))⟩ : fU)], _, sv', V'), aL rfl (aL rfl (aL rfl (aL rfl (aL rfl (aL rfl (bG _)))))), ⟨hs', Rows.snoc (hrows.mono fun _ _ h => h.mono hle') (show RPair V' ⟨w16 l i, seg l (i + 4) (w16 l (i + 2))⟩ _ from ⟨_, rfl, hR⟩) rfl, Vw.le_trans hle hle', by
        rw [← hp]
        conv => rhs; rw [optsS, dif_pos (by omega), if_pos ⟨by omega, hfit⟩], by simp only; omega, by simp only; omega, by simp; omega⟩, by simp only; omega⟩
 have hs := hsl.st
 refine eT (aF ?_)
 obtain ⟨V', hle', hT, hs⟩ := hsl.give
 have hT' : eV V' sv acc := ⟨xs, hT, hrows.mono fun _ _ h => h.mono hle'⟩
 refine aB (dM rfl rfl (lp (bL rfl (by simp only [List.all_cons, List.all_nil, hT'.oneCell]; rfl) (bu_205_0 _)) rfl (aJ (dR 0 hs k_205 rfl rfl rfl rfl (by simp) (bX hT'.oneCell eQ) rfl (fun w hs => dN rfl rfl (aH (aV ⟨_, fX ⟨_, rfl, aP k_205 (hs.g 0 rfl) rfl⟩ rfl, ?_⟩)))))))
 exact ⟨V', _, _, .ok, rfl, hs.drop hb6, rfl, rfl, bX hT'.oneCell eQ, .inl ⟨_, rfl, by simp only [body]; rw [← hp, optsS, dif_neg (by omega)]; rfl, _, rfl, hT'⟩⟩
end
end Go.Proofs.YtgpfjlfkaoffeaaGreatDoor

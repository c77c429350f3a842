/- Bodies that are names or addresses. -/
import Derived.Test.YtgpfjlfkaoffeaaGreatDoorP14
set_option linter.all false
namespace Go.Proofs.YtgpfjlfkaoffeaaGreatDoor
open Go
def BodyC (V : Vw) (kind : Nat) (t : Nat) (r : PRec) (cs : List Value) : Prop :=
 match kind with
 | 1 => cs = r.data.map byteVal ∧ r.data.length = 4
 | 8 => cs = r.data.map byteVal ∧ r.data.length = 16
 | 2 => cs = nmC r.host r.host.length ∧ r.host.length ≤ 254
 | 3 => cs = nmC r.host r.host.length ∧ r.host.length ≤ 254
 | 5 => cs = nmC r.host r.host.length ∧ r.host.length ≤ 254
 | 6 => cs = .int .u16 r.n1 :: nmC r.host r.host.length ∧ r.host.length ≤ 254 ∧ r.n1 < 65536
 | 9 => cs = .int .u16 r.n1 :: .int .u16 r.n2 :: .int .u16 r.n3 :: nmC r.host r.host.length ∧ r.host.length ≤ 254 ∧ r.n1 < 65536 ∧ r.n2 < 65536 ∧ r.n3 < 65536
 | 4 => cs = nmC r.host r.host.length ++ nmC r.box r.box.length ++ [.int .u32 r.n1, .int .u32 r.n2, .int .u32 r.n3, .int .u32 r.n4, .int .u32 r.n5] ∧ r.host.length ≤ 254 ∧ r.box.length ≤ 254
 | 7 => ∃ v, cs = [v] ∧ RTexts V v r.texts
 | 10 => ∃ v, cs = [v] ∧ RPairs V v r.pairs
 | 11 => ∃ v, cs = .int .u16 r.n1 :: (nmC r.host r.host.length ++ [v]) ∧ r.host.length ≤ 254 ∧ r.n1 < 65536 ∧ RPairs V v r.pairs
 | 12 => ∃ v, cs = .int .u16 r.n1 :: (nmC r.host r.host.length ++ [v]) ∧ r.host.length ≤ 254 ∧ r.n1 < 65536 ∧ RPairs V v r.pairs
 | _ => ∃ v, cs = [.int .u16 t, v] ∧ RB V v r.data
section
variable {A : Nat → Addr} {V : Vw} {w0 : World} {l : List UInt8} {mv : Value} {off : Int}
theorem c_unpackNS (hG : Gl A V) (hV : V.In w0) (hb : RB V mv l) (n : Nat) (hn : off = n) (h1 : n ≤ 1152921504606846976) (h2 : l.length ≤ 1152921504606846975) :
  CallsV Tryz.prog 161 #[mv, .int .i64 off] w0 fun v w' => ∃ (cs : List Value) (e : Value) (k : EK), v = .tuple #[.agg cs.toArray, e] ∧ St ⟨w0, V, V⟩ w' [] ∧ ErrV A e k ∧ cs.length = 256 ∧ Flat cs ∧
   ((∃ r, k = .ok ∧ ∀ len, body l n 2 len = some r ∧ BodyC V 2 0 r cs) ∨ (k = .other ∧ ∀ len, body l n 2 len = none)) := by
 subst hn
 have hs := St.start hV
 refine aT [_, _] Tryz.func161 Tryz.ntmps161 Tryz.results161 rfl rfl (dP (aJ (aX hs z_163 rfl (fun b4 w hb4 he4 hs => dN rfl rfl (aH (dP (aJ (aX hs z_86 rfl (fun b6 w hb6 he6 hs => ?_)))))))))
 rw [rep256] at hs
 refine aH (aF (dP (dM rfl rfl (dM rfl rfl (aZ ok_151 rfl rfl (c_nameUnpack (pre := []) (post := []) hG hs.isIn hb rfl (by have := hs.g 0 rfl; rw [List.nil_append, List.append_nil]; exact this) (hs.off (k := 0) rfl) n rfl h1 (by omega)) rfl (fun v12 w HF => ?_))))))
 obtain ⟨o, k, e, out, z, rfl, he, ho, hz, hc, hr⟩ := HF
 replace hs := hs.frame1 (k := 0) rfl rfl hc
 rw [List.nil_append, List.append_nil] at hs
 have hnl := cM (n := z) (Nat.le_trans ho (by decide : 254 ≤ 255))
 refine dM rfl rfl (dO rfl rfl rfl (dO rfl rfl rfl (dN rfl rfl (dN rfl rfl (aH (dP (dM rfl rfl (lp (bB he rfl) rfl (aH (bH rfl (fun hc0 => ?_) (fun hc0 => ?_)))))))))))
 refine dP (lp (bM (vs := []) (ps := []) rfl bz_163) rfl (dM rfl rfl (aJ (dR 1 hs k_163 rfl rfl rfl (by simp) (cM (by simp)) (flat_rep _ rfl) rfl (fun w hs => dN rfl rfl (aH (aV ⟨_, res2 ⟨_, rfl, aP k_163 (hs.g 1 rfl) (by simp)⟩ rfl, ?_⟩)))))))
 exact ⟨_, _, k, rfl, (hs.drop hb6).drop hb4, he, by simp, flat_rep _ rfl, .inr ⟨(hr.bad hc0).1, fun len => by simp [body, (hr.bad hc0).2]⟩⟩
 have hk : k = .ok := by simpa using hc0
 subst hk
 obtain ⟨hname, rfl⟩ := hr.ok
 refine aW (dP (lp (aO rfl (aP k_86 (hs.g 0 rfl) hnl)) rfl (lp (po_buildG [nmC out out.length] st_163 rfl rfl rfl (by simp [hnl]) (List.append_nil _)) rfl (aJ (dR 1 hs k_163 rfl rfl rfl hnl (cM (by simp)) (flat_nmC _ _) rfl (fun w hs => dN rfl rfl (aH (aV ⟨_, res2 ⟨_, rfl, aP k_163 (hs.g 1 rfl) hnl⟩ rfl, ?_⟩))))))))
 exact ⟨_, _, .ok, rfl, (hs.drop hb6).drop hb4, rfl, hnl, flat_nmC _ _, .inl ⟨_, rfl, fun len => ⟨by simp only [body, hname, Option.map_some]; rfl, rfl, ho⟩⟩⟩
theorem c_unpackCNAME (hG : Gl A V) (hV : V.In w0) (hb : RB V mv l) (n : Nat) (hn : off = n) (h1 : n ≤ 1152921504606846976) (h2 : l.length ≤ 1152921504606846975) :
  CallsV Tryz.prog 162 #[mv, .int .i64 off] w0 fun v w' => ∃ (cs : List Value) (e : Value) (k : EK), v = .tuple #[.agg cs.toArray, e] ∧ St ⟨w0, V, V⟩ w' [] ∧ ErrV A e k ∧ cs.length = 256 ∧ Flat cs ∧
   ((∃ r, k = .ok ∧ ∀ len, body l n 3 len = some r ∧ BodyC V 3 0 r cs) ∨ (k = .other ∧ ∀ len, body l n 3 len = none)) := by
 subst hn
 have hs := St.start hV
 refine aT [_, _] Tryz.func162 Tryz.ntmps162 Tryz.results162 rfl rfl (dP (aJ (aX hs z_168 rfl (fun b4 w hb4 he4 hs => dN rfl rfl (aH (dP (aJ (aX hs z_86 rfl (fun b6 w hb6 he6 hs => ?_)))))))))
 rw [rep256] at hs
 refine aH (aF (dP (dM rfl rfl (dM rfl rfl (aZ ok_151 rfl rfl (c_nameUnpack (pre := []) (post := []) hG hs.isIn hb rfl (by have := hs.g 0 rfl; rw [List.nil_append, List.append_nil]; exact this) (hs.off (k := 0) rfl) n rfl h1 (by omega)) rfl (fun v12 w HF => ?_))))))
 obtain ⟨o, k, e, out, z, rfl, he, ho, hz, hc, hr⟩ := HF
 replace hs := hs.frame1 (k := 0) rfl rfl hc
 rw [List.nil_append, List.append_nil] at hs
 have hnl := cM (n := z) (Nat.le_trans ho (by decide : 254 ≤ 255))
 refine dM rfl rfl (dO rfl rfl rfl (dO rfl rfl rfl (dN rfl rfl (dN rfl rfl (aH (dP (dM rfl rfl (lp (bB he rfl) rfl (aH (bH rfl (fun hc0 => ?_) (fun hc0 => ?_)))))))))))
 refine dP (lp (bM (vs := []) (ps := []) rfl bz_168) rfl (dM rfl rfl (aJ (dR 1 hs k_168 rfl rfl rfl (by simp) (cM (by simp)) (flat_rep _ rfl) rfl (fun w hs => dN rfl rfl (aH (aV ⟨_, res2 ⟨_, rfl, aP k_168 (hs.g 1 rfl) (by simp)⟩ rfl, ?_⟩)))))))
 exact ⟨_, _, k, rfl, (hs.drop hb6).drop hb4, he, by simp, flat_rep _ rfl, .inr ⟨(hr.bad hc0).1, fun len => by simp [body, (hr.bad hc0).2]⟩⟩
 have hk : k = .ok := by simpa using hc0
 subst hk
 obtain ⟨hname, rfl⟩ := hr.ok
 refine aW (dP (lp (aO rfl (aP k_86 (hs.g 0 rfl) hnl)) rfl (lp (po_buildG [nmC out out.length] st_168 rfl rfl rfl (by simp [hnl]) (List.append_nil _)) rfl (aJ (dR 1 hs k_168 rfl rfl rfl hnl (cM (by simp)) (flat_nmC _ _) rfl (fun w hs => dN rfl rfl (aH (aV ⟨_, res2 ⟨_, rfl, aP k_168 (hs.g 1 rfl) hnl⟩ rfl, ?_⟩))))))))
 exact ⟨_, _, .ok, rfl, (hs.drop hb6).drop hb4, rfl, hnl, flat_nmC _ _, .inl ⟨_, rfl, fun len => ⟨by simp only [body, hname, Option.map_some]; rfl, rfl, ho⟩⟩⟩
theorem c_unpackPTR (hG : Gl A V) (hV : V.In w0) (hb : RB V mv l) (n : Nat) (hn : off = n) (h1 : n ≤ 1152921504606846976) (h2 : l.length ≤ 1152921504606846975) :
  CallsV Tryz.prog 164 #[mv, .int .i64 off] w0 fun v w' => ∃ (cs : List Value) (e : Value) (k : EK), v = .tuple #[.agg cs.toArray, e] ∧ St ⟨w0, V, V⟩ w' [] ∧ ErrV A e k ∧ cs.length = 256 ∧ Flat cs ∧
   ((∃ r, k = .ok ∧ ∀ len, body l n 5 len = some r ∧ BodyC V 5 0 r cs) ∨ (k = .other ∧ ∀ len, body l n 5 len = none)) := by
 subst hn
 have hs := St.start hV
 refine aT [_, _] Tryz.func164 Tryz.ntmps164 Tryz.results164 rfl rfl (dP (aJ (aX hs z_178 rfl (fun b4 w hb4 he4 hs => dN rfl rfl (aH (dP (aJ (aX hs z_86 rfl (fun b6 w hb6 he6 hs => ?_)))))))))
 rw [rep256] at hs
 refine aH (aF (dP (dM rfl rfl (dM rfl rfl (aZ ok_151 rfl rfl (c_nameUnpack (pre := []) (post := []) hG hs.isIn hb rfl (by have := hs.g 0 rfl; rw [List.nil_append, List.append_nil]; exact this) (hs.off (k := 0) rfl) n rfl h1 (by omega)) rfl (fun v12 w HF => ?_))))))
 obtain ⟨o, k, e, out, z, rfl, he, ho, hz, hc, hr⟩ := HF
 replace hs := hs.frame1 (k := 0) rfl rfl hc
 rw [List.nil_append, List.append_nil] at hs
 have hnl := cM (n := z) (Nat.le_trans ho (by decide : 254 ≤ 255))
 refine dM rfl rfl (dO rfl rfl rfl (dO rfl rfl rfl (dN rfl rfl (dN rfl rfl (aH (dP (dM rfl rfl (lp (bB he rfl) rfl (aH (bH rfl (fun hc0 => ?_) (fun hc0 => ?_)))))))))))
 refine dP (lp (bM (vs := []) (ps := []) rfl bz_178) rfl (dM rfl rfl (aJ (dR 1 hs k_178 rfl rfl rfl (by simp) (cM (by simp)) (flat_rep _ rfl) rfl (fun w hs => dN rfl rfl (aH (aV ⟨_, res2 ⟨_, rfl, aP k_178 (hs.g 1 rfl) (by simp)⟩ rfl, ?_⟩)))))))
 exact ⟨_, _, k, rfl, (hs.drop hb6).drop hb4, he, by simp, flat_rep _ rfl, .inr ⟨(hr.bad hc0).1, fun len => by simp [body, (hr.bad hc0).2]⟩⟩
 have hk : k = .ok := by simpa using hc0
 subst hk
 obtain ⟨hname, rfl⟩ := hr.ok
 refine aW (dP (lp (aO rfl (aP k_86 (hs.g 0 rfl) hnl)) rfl (lp (po_buildG [nmC out out.length] st_178 rfl rfl rfl (by simp [hnl]) (List.append_nil _)) rfl (aJ (dR 1 hs k_178 rfl rfl rfl hnl (cM (by simp)) (flat_nmC _ _) rfl (fun w hs => dN rfl rfl (aH (aV ⟨_, res2 ⟨_, rfl, aP k_178 (hs.g 1 rfl) hnl⟩ rfl, ?_⟩))))))))
 exact ⟨_, _, .ok, rfl, (hs.drop hb6).drop hb4, rfl, hnl, flat_nmC _ _, .inl ⟨_, rfl, fun len => ⟨by simp only [body, hname, Option.map_some]; rfl, rfl, ho⟩⟩⟩
theorem c_unpackA (hG : Gl A V) (hV : V.In w0) (hb : RB V mv l) (n : Nat) (hn : off = n) (h1 : n ≤ 1152921504606846976) (h2 : l.length ≤ 1152921504606846975) :
  CallsV Tryz.prog 160 #[mv, .int .i64 off] w0 fun v w' => ∃ (cs : List Value) (e : Value) (k : EK), v = .tuple #[.agg cs.toArray, e] ∧ St ⟨w0, V, V⟩ w' [] ∧ ErrV A e k ∧ cs.length = 4 ∧ Flat cs ∧
   ((∃ r, k = .ok ∧ ∀ len, body l n 1 len = some r ∧ BodyC V 1 0 r cs) ∨ (k = .other ∧ ∀ len, body l n 1 len = none)) := by
 subst hn
 have hs := St.start hV
 refine aT [_, _] Tryz.func160 Tryz.ntmps160 Tryz.results160 rfl rfl (dP (aJ (aX hs z_157 rfl (fun b4 w hb4 he4 hs => dN rfl rfl (aH (dP (aJ (aX hs z_155 rfl (fun b6 w hb6 he6 hs => aH (aF (dP (dM rfl rfl (dM rfl rfl (lp (po_slice_arrA ar_155 (by decide) rfl) rfl (aZ ok_193 rfl rfl (c_unpackBytes (m := 4) (c := 4) hG hs.isIn hb (by rfl) (hs.g 0 rfl) (hs.off (k := 0) rfl) n rfl h1 (by omega) (by omega)) rfl (fun v13 w HF => ?_))))))))))))))))
 obtain ⟨o, k, e, cs', rfl, he, hc, hr⟩ := HF
 replace hs := hs.frame1 (k := 0) rfl rfl hc
 refine dM rfl rfl (dO rfl rfl rfl (dO rfl rfl rfl (dN rfl rfl (dN rfl rfl (aH (dP (dM rfl rfl (lp (bB he rfl) rfl (aH (bH rfl (fun hc0 => ?_) (fun hc0 => ?_)))))))))))
 refine dP (lp (bM (vs := []) (ps := []) rfl bz_157) rfl (dM rfl rfl (aJ (dR 1 hs k_157 rfl rfl rfl (by simp) (by simp) (by simp [Flat, Value.oneCell']) rfl (fun w hs => dN rfl rfl (aH (aV ⟨_, res2 ⟨_, rfl, aP k_157 (hs.g 1 rfl) (by simp)⟩ rfl, ?_⟩)))))))
 have hno : k = .other ∧ rdBytes l n 4 = none := by
  rcases hr with ⟨h, _⟩ | ⟨h, h', _⟩
  exact absurd h hc0
  exact ⟨h, h'⟩
 exact ⟨_, _, k, rfl, (hs.drop hb6).drop hb4, he, by simp, by simp [Flat, Value.oneCell'], .inr ⟨hno.1, fun len => by simp [body, hno.2]⟩⟩
 have hk : k = .ok := by simpa using hc0
 subst hk
 obtain ⟨hbytes, rfl⟩ : rdBytes l n 4 = some (seg l n 4) ∧ cs' = (seg l n 4).map byteVal := by
  rcases hr with ⟨_, h⟩ | ⟨h, _⟩
  exact h
  cases h
 have hsl : (seg l n 4).length = 4 := by
  unfold rdBytes at hbytes
  split at hbytes
  exact seg_len (by assumption)
  cases hbytes
 have hnl : ((seg l n 4).map byteVal).length = 4 := by simp [hsl]
 refine aW (dP (lp (aO rfl (aP k_155 (hs.g 0 rfl) hnl)) rfl (lp (po_buildG [(seg l n 4).map byteVal] st_157 rfl rfl rfl (by simp [hsl]) (List.append_nil _)) rfl (aJ (dR 1 hs k_157 rfl rfl rfl hnl (by simp) (dH _) rfl (fun w hs => dN rfl rfl (aH (aV ⟨_, res2 ⟨_, rfl, aP k_157 (hs.g 1 rfl) hnl⟩ rfl, ?_⟩))))))))
 exact ⟨_, _, .ok, rfl, (hs.drop hb6).drop hb4, rfl, hnl, dH _, .inl ⟨_, rfl, fun len => ⟨by simp only [body, hbytes, Option.map_some]; rfl, rfl, hsl⟩⟩⟩
theorem c_unpackAAAA (hG : Gl A V) (hV : V.In w0) (hb : RB V mv l) (n : Nat) (hn : off = n) (h1 : n ≤ 1152921504606846976) (h2 : l.length ≤ 1152921504606846975) :
  CallsV Tryz.prog 167 #[mv, .int .i64 off] w0 fun v w' => ∃ (cs : List Value) (e : Value) (k : EK), v = .tuple #[.agg cs.toArray, e] ∧ St ⟨w0, V, V⟩ w' [] ∧ ErrV A e k ∧ cs.length = 16 ∧ Flat cs ∧
   ((∃ r, k = .ok ∧ ∀ len, body l n 8 len = some r ∧ BodyC V 8 0 r cs) ∨ (k = .other ∧ ∀ len, body l n 8 len = none)) := by
 subst hn
 have hs := St.start hV
 refine aT [_, _] Tryz.func167 Tryz.ntmps167 Tryz.results167 rfl rfl (dP (aJ (aX hs z_194 rfl (fun b4 w hb4 he4 hs => dN rfl rfl (aH (dP (aJ (aX hs z_192 rfl (fun b6 w hb6 he6 hs => aH (aF (dP (dM rfl rfl (dM rfl rfl (lp (po_slice_arrA ar_192 (by decide) rfl) rfl (aZ ok_193 rfl rfl (c_unpackBytes (m := 16) (c := 16) hG hs.isIn hb (by rfl) (hs.g 0 rfl) (hs.off (k := 0) rfl) n rfl h1 (by omega) (by omega)) rfl (fun v13 w HF => ?_))))))))))))))))
 obtain ⟨o, k, e, cs', rfl, he, hc, hr⟩ := HF
 replace hs := hs.frame1 (k := 0) rfl rfl hc
 refine dM rfl rfl (dO rfl rfl rfl (dO rfl rfl rfl (dN rfl rfl (dN rfl rfl (aH (dP (dM rfl rfl (lp (bB he rfl) rfl (aH (bH rfl (fun hc0 => ?_) (fun hc0 => ?_)))))))))))
 refine dP (lp (bM (vs := []) (ps := []) rfl bz_194) rfl (dM rfl rfl (aJ (dR 1 hs k_194 rfl rfl rfl (by simp) (by simp) (by simp [Flat, Value.oneCell']) rfl (fun w hs => dN rfl rfl (aH (aV ⟨_, res2 ⟨_, rfl, aP k_194 (hs.g 1 rfl) (by simp)⟩ rfl, ?_⟩)))))))
 have hno : k = .other ∧ rdBytes l n 16 = none := by
  rcases hr with ⟨h, _⟩ | ⟨h, h', _⟩
  exact absurd h hc0
  exact ⟨h, h'⟩
 exact ⟨_, _, k, rfl, (hs.drop hb6).drop hb4, he, by simp, by simp [Flat, Value.oneCell'], .inr ⟨hno.1, fun len => by simp [body, hno.2]⟩⟩
 have hk : k = .ok := by simpa using hc0
 subst hk
 obtain ⟨hbytes, rfl⟩ : rdBytes l n 16 = some (seg l n 16) ∧ cs' = (seg l n 16).map byteVal := by
  rcases hr with ⟨_, h⟩ | ⟨h, _⟩
  exact h
  cases h
 have hsl : (seg l n 16).length = 16 := by
  unfold rdBytes at hbytes
  split at hbytes
  exact seg_len (by assumption)
  cases hbytes
 have hnl : ((seg l n 16).map byteVal).length = 16 := by simp [hsl]
 refine aW (dP (lp (aO rfl (aP k_192 (hs.g 0 rfl) hnl)) rfl (lp (po_buildG [(seg l n 16).map byteVal] st_194 rfl rfl rfl (by simp [hsl]) (List.append_nil _)) rfl (aJ (dR 1 hs k_194 rfl rfl rfl hnl (by simp) (dH _) rfl (fun w hs => dN rfl rfl (aH (aV ⟨_, res2 ⟨_, rfl, aP k_194 (hs.g 1 rfl) hnl⟩ rfl, ?_⟩))))))))
 exact ⟨_, _, .ok, rfl, (hs.drop hb6).drop hb4, rfl, hnl, dH _, .inl ⟨_, rfl, fun len => ⟨by simp only [body, hbytes, Option.map_some]; rfl, rfl, hsl⟩⟩⟩
end
end Go.Proofs.YtgpfjlfkaoffeaaGreatDoor

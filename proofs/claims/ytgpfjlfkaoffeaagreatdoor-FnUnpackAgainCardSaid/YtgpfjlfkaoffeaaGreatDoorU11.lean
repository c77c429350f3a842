/- Bodies that are names or addresses. Bodies of several parts. -/
import Derived.Test.YtgpfjlfkaoffeaaGreatDoorU10
set_option linter.all false
namespace Go.Proofs.YtgpfjlfkaoffeaaGreatDoor
open Go
def fL (V : Vw) (kind : Nat) (t : Nat) (r : fY) (cs : List Value) : Prop :=
 match kind with
 | 1 => cs = r.data.map eA ∧ r.data.length = 4
 | 8 => cs = r.data.map eA ∧ r.data.length = 16
 | 2 => cs = nmC r.host r.host.length ∧ r.host.length ≤ 254
 | 3 => cs = nmC r.host r.host.length ∧ r.host.length ≤ 254
 | 5 => cs = nmC r.host r.host.length ∧ r.host.length ≤ 254
 | 6 => cs = .int .u16 r.n1 :: nmC r.host r.host.length ∧ r.host.length ≤ 254 ∧ r.n1 < 65536
 | 9 => cs = .int .u16 r.n1 :: .int .u16 r.n2 :: .int .u16 r.n3 :: nmC r.host r.host.length ∧ r.host.length ≤ 254 ∧ r.n1 < 65536 ∧ r.n2 < 65536 ∧ r.n3 < 65536
 | 4 => cs = nmC r.host r.host.length ++ nmC r.box r.box.length ++ [.int .u32 r.n1, .int .u32 r.n2, .int .u32 r.n3, .int .u32 r.n4, .int .u32 r.n5] ∧ r.host.length ≤ 254 ∧ r.box.length ≤ 254
 | 7 => ∃ v, cs = [v] ∧ fF V v r.texts
 | 10 => ∃ v, cs = [v] ∧ eV V v r.pairs
 | 11 => ∃ v, cs = .int .u16 r.n1 :: (nmC r.host r.host.length ++ [v]) ∧ r.host.length ≤ 254 ∧ r.n1 < 65536 ∧ eV V v r.pairs
 | 12 => ∃ v, cs = .int .u16 r.n1 :: (nmC r.host r.host.length ++ [v]) ∧ r.host.length ≤ 254 ∧ r.n1 < 65536 ∧ eV V v r.pairs
 | _ => ∃ v, cs = [.int .u16 t, v] ∧ RB V v r.data
section
variable {A : Nat → Addr} {V : Vw} {w0 : World} {l : List UInt8} {mv : Value} {off : Int}
theorem c_unpackNS (hG : Gl A V) (hV : V.In w0) (hb : RB V mv l) (n : Nat) (hn : off = n) (h1 : n ≤ 1152921504606846976) (h2 : l.length ≤ 1152921504606846975) :
  eC Tryz.prog 161 #[mv, .int .i64 off] w0 fun v w' => ∃ (cs : List Value) (e : Value) (k : EK), v = .tuple #[.agg cs.toArray, e] ∧ St ⟨w0, V, V⟩ w' [] ∧ ErrV A e k ∧ cs.length = 256 ∧ Flat cs ∧
   ((∃ r, k = .ok ∧ ∀ len, body l n 2 len = some r ∧ fL V 2 0 r cs) ∨ (k = .other ∧ ∀ len, body l n 2 len = none)) := by
 subst hn
 have hs := St.start hV
 refine aT [_, _] Tryz.func161 Tryz.ntmps161 Tryz.results161 rfl rfl (dP (aJ (aX hs z_163 rfl (fun b4 w hb4 he4 hs => dN rfl rfl (aH (dP (aJ (aX hs z_86 rfl (fun b6 w hb6 he6 hs => ?_)))))))))
 rw [rep256] at hs
 refine aH (aF (dP (dM rfl rfl (dM rfl rfl (aZ ok_151 rfl rfl (c_nameUnpack (pre := []) (post := []) hG hs.isIn hb rfl (by have := hs.g 0 rfl; rw [List.nil_append, List.append_nil]; exact this) (hs.off (k := 0) rfl) n rfl h1 (by omega)) rfl (fun v12 w HF => ?_))))))
 obtain ⟨o, k, e, out, z, rfl, he, ho, hz, hc, hr⟩ := HF
 replace hs := hs.frame1 (k := 0) rfl rfl hc
 rw [List.nil_append, List.append_nil] at hs
 have hnl := cM (n := z) (Nat.le_trans ho (by decide : 254 ≤ 255))
 refine dM rfl rfl (dO rfl rfl rfl (dO rfl rfl rfl (dN rfl rfl (dN rfl rfl (aH (dP (dM rfl rfl (lp (bB he rfl) rfl (aH (bH rfl (fun hc0 => ?_) (fun hc0 => ?_)))))))))))
 refine dP (lp (bM (vs := []) (ps := []) rfl bz_163) rfl (dM rfl rfl (aJ (dR 1 hs k_163 rfl rfl rfl (by simp) (cM (by simp)) (flat_rep _ rfl) rfl (fun w hs => dN rfl rfl (aH (aV ⟨_, fX ⟨_, rfl, aP k_163 (hs.g 1 rfl) (by simp)⟩ rfl, ?_⟩)))))))
 exact ⟨_, _, k, rfl, (hs.drop hb6).drop hb4, he, by simp, flat_rep _ rfl, .inr ⟨(hr.bad hc0).1, fun len => by simp [body, (hr.bad hc0).2]⟩⟩
 have hk : k = .ok := by simpa using hc0
 subst hk
 obtain ⟨hname, rfl⟩ := hr.ok
 refine aW (dP (lp (aO rfl (aP k_86 (hs.g 0 rfl) hnl)) rfl (lp (fO [nmC out out.length] st_163 rfl rfl rfl (by simp [hnl]) (List.append_nil _)) rfl (aJ (dR 1 hs k_163 rfl rfl rfl hnl (cM (by simp)) (eU _ _) rfl (fun w hs => dN rfl rfl (aH (aV ⟨_, fX ⟨_, rfl, aP k_163 (hs.g 1 rfl) hnl⟩ rfl, ?_⟩))))))))
 exact ⟨_, _, .ok, rfl, (hs.drop hb6).drop hb4, rfl, hnl, eU _ _, .inl ⟨_, rfl, fun len => ⟨by simp only [body, hname, Option.map_some]; rfl, rfl, ho⟩⟩⟩
theorem c_unpackCNAME (hG : Gl A V) (hV : V.In w0) (hb : RB V mv l) (n : Nat) (hn : off = n) (h1 : n ≤ 1152921504606846976) (h2 : l.length ≤ 1152921504606846975) :
  eC Tryz.prog 162 #[mv, .int .i64 off] w0 fun v w' => ∃ (cs : List Value) (e : Value) (k : EK), v = .tuple #[.agg cs.toArray, e] ∧ St ⟨w0, V, V⟩ w' [] ∧ ErrV A e k ∧ cs.length = 256 ∧ Flat cs ∧
   ((∃ r, k = .ok ∧ ∀ len, body l n 3 len = some r ∧ fL V 3 0 r cs) ∨ (k = .other ∧ ∀ len, body l n 3 len = none)) := by
 subst hn
 have hs := St.start hV
 refine aT [_, _] Tryz.func162 Tryz.ntmps162 Tryz.results162 rfl rfl (dP (aJ (aX hs z_168 rfl (fun b4 w hb4 he4 hs => dN rfl rfl (aH (dP (aJ (aX hs z_86 rfl (fun b6 w hb6 he6 hs => ?_)))))))))
 rw [rep256] at hs
 refine aH (aF (dP (dM rfl rfl (dM rfl rfl (aZ ok_151 rfl rfl (c_nameUnpack (pre := []) (post := []) hG hs.isIn hb rfl (by have := hs.g 0 rfl; rw [List.nil_append, List.append_nil]; exact this) (hs.off (k := 0) rfl) n rfl h1 (by omega)) rfl (fun v12 w HF => ?_))))))
 obtain ⟨o, k, e, out, z, rfl, he, ho, hz, hc, hr⟩ := HF
 replace hs := hs.frame1 (k := 0) rfl rfl hc
 rw [List.nil_append, List.append_nil] at hs
 have hnl := cM (n := z) (Nat.le_trans ho (by decide : 254 ≤ 255))
 refine dM rfl rfl (dO rfl rfl rfl (dO rfl rfl rfl (dN rfl rfl (dN rfl rfl (aH (dP (dM rfl rfl (lp (bB he rfl) rfl (aH (bH rfl (fun hc0 => ?_) (fun hc0 => ?_)))))))))))
 refine dP (lp (bM (vs := []) (ps := []) rfl bz_168) rfl (dM rfl rfl (aJ (dR 1 hs k_168 rfl rfl rfl (by simp) (cM (by simp)) (flat_rep _ rfl) rfl (fun w hs => dN rfl rfl (aH (aV ⟨_, fX ⟨_, rfl, aP k_168 (hs.g 1 rfl) (by simp)⟩ rfl, ?_⟩)))))))
 exact ⟨_, _, k, rfl, (hs.drop hb6).drop hb4, he, by simp, flat_rep _ rfl, .inr ⟨(hr.bad hc0).1, fun len => by simp [body, (hr.bad hc0).2]⟩⟩
 have hk : k = .ok := by simpa using hc0
 subst hk
 obtain ⟨hname, rfl⟩ := hr.ok
 refine aW (dP (lp (aO rfl (aP k_86 (hs.g 0 rfl) hnl)) rfl (lp (fO [nmC out out.length] st_168 rfl rfl rfl (by simp [hnl]) (List.append_nil _)) rfl (aJ (dR 1 hs k_168 rfl rfl rfl hnl (cM (by simp)) (eU _ _) rfl (fun w hs => dN rfl rfl (aH (aV ⟨_, fX ⟨_, rfl, aP k_168 (hs.g 1 rfl) hnl⟩ rfl, ?_⟩))))))))
 exact ⟨_, _, .ok, rfl, (hs.drop hb6).drop hb4, rfl, hnl, eU _ _, .inl ⟨_, rfl, fun len => ⟨by simp only [body, hname, Option.map_some]; rfl, rfl, ho⟩⟩⟩
theorem c_unpackPTR (hG : Gl A V) (hV : V.In w0) (hb : RB V mv l) (n : Nat) (hn : off = n) (h1 : n ≤ 1152921504606846976) (h2 : l.length ≤ 1152921504606846975) :
  eC Tryz.prog 164 #[mv, .int .i64 off] w0 fun v w' => ∃ (cs : List Value) (e : Value) (k : EK), v = .tuple #[.agg cs.toArray, e] ∧ St ⟨w0, V, V⟩ w' [] ∧ ErrV A e k ∧ cs.length = 256 ∧ Flat cs ∧
   ((∃ r, k = .ok ∧ ∀ len, body l n 5 len = some r ∧ fL V 5 0 r cs) ∨ (k = .other ∧ ∀ len, body l n 5 len = none)) := by
 subst hn
 have hs := St.start hV
 refine aT [_, _] Tryz.func164 Tryz.ntmps164 Tryz.results164 rfl rfl (dP (aJ (aX hs z_178 rfl (fun b4 w hb4 he4 hs => dN rfl rfl (aH (dP (aJ (aX hs z_86 rfl (fun b6 w hb6 he6 hs => ?_)))))))))
 rw [rep256] at hs
 refine aH (aF (dP (dM rfl rfl (dM rfl rfl (aZ ok_151 rfl rfl (c_nameUnpack (pre := []) (post := []) hG hs.isIn hb rfl (by have := hs.g 0 rfl; rw [List.nil_append, List.append_nil]; exact this) (hs.off (k := 0) rfl) n rfl h1 (by omega)) rfl (fun v12 w HF => ?_))))))
 obtain ⟨o, k, e, out, z, rfl, he, ho, hz, hc, hr⟩ := HF
 replace hs := hs.frame1 (k := 0) rfl rfl hc
 rw [List.nil_append, List.append_nil] at hs
 have hnl := cM (n := z) (Nat.le_trans ho (by decide : 254 ≤ 255))
 refine dM rfl rfl (dO rfl rfl rfl (dO rfl rfl rfl (dN rfl rfl (dN rfl rfl (aH (dP (dM rfl rfl (lp (bB he rfl) rfl (aH (bH rfl (fun hc0 => ?_) (fun hc0 => ?_)))))))))))
 refine dP (lp (bM (vs := []) (ps := []) rfl bz_178) rfl (dM rfl rfl (aJ (dR 1 hs k_178 rfl rfl rfl (by simp) (cM (by simp)) (flat_rep _ rfl) rfl (fun w hs => dN rfl rfl (aH (aV ⟨_, fX ⟨_, rfl, aP k_178 (hs.g 1 rfl) (by simp)⟩ rfl, ?_⟩)))))))
 exact ⟨_, _, k, rfl, (hs.drop hb6).drop hb4, he, by simp, flat_rep _ rfl, .inr ⟨(hr.bad hc0).1, fun len => by simp [body, (hr.bad hc0).2]⟩⟩
 have hk : k = .ok := by simpa using hc0
 subst hk
 obtain ⟨hname, rfl⟩ := hr.ok
 refine aW (dP (lp (aO rfl (aP k_86 (hs.g 0 rfl) hnl)) rfl (lp (fO [nmC out out.length] st_178 rfl rfl rfl (by simp [hnl]) (List.append_nil _)) rfl (aJ (dR 1 hs k_178 rfl rfl rfl hnl (cM (by simp)) (eU _ _) rfl (fun w hs => dN rfl rfl (aH (aV ⟨_, fX ⟨_, rfl, aP k_178 (hs.g 1 rfl) hnl⟩ rfl, ?_⟩))))))))
 exact ⟨_, _, .ok, rfl, (hs.drop hb6).drop hb4, rfl, hnl, eU _ _, .inl ⟨_, rfl, fun len => ⟨by simp only [body, hname, Option.map_some]; rfl, rfl, ho⟩⟩⟩
theorem c_unpackA (hG : Gl A V) (hV : V.In w0) (hb : RB V mv l) (n : Nat) (hn : off = n) (h1 : n ≤ 1152921504606846976) (h2 : l.length ≤ 1152921504606846975) :
  eC Tryz.prog 160 #[mv, .int .i64 off] w0 fun v w' => ∃ (cs : List Value) (e : Value) (k : EK), v = .tuple #[.agg cs.toArray, e] ∧ St ⟨w0, V, V⟩ w' [] ∧ ErrV A e k ∧ cs.length = 4 ∧ Flat cs ∧
   ((∃ r, k = .ok ∧ ∀ len, body l n 1 len = some r ∧ fL V 1 0 r cs) ∨ (k = .other ∧ ∀ len, body l n 1 len = none)) := by
 subst hn
 have hs := St.start hV
 refine aT [_, _] Tryz.func160 Tryz.ntmps160 Tryz.results160 rfl rfl (dP (aJ (aX hs z_157 rfl (fun b4 w hb4 he4 hs => dN rfl rfl (aH (dP (aJ (aX hs z_155 rfl (fun b6 w hb6 he6 hs => aH (aF (dP (dM rfl rfl (dM rfl rfl (lp (po_slice_arrA ar_155 (by decide) rfl) rfl (aZ ok_193 rfl rfl (c_unpackBytes (m := 4) (c := 4) hG hs.isIn hb (by rfl) (hs.g 0 rfl) (hs.off (k := 0) rfl) n rfl h1 (by omega) (by omega)) rfl (fun v13 w HF => ?_))))))))))))))))
 obtain ⟨o, k, e, cs', rfl, he, hc, hr⟩ := HF
 replace hs := hs.frame1 (k := 0) rfl rfl hc
 refine dM rfl rfl (dO rfl rfl rfl (dO rfl rfl rfl (dN rfl rfl (dN rfl rfl (aH (dP (dM rfl rfl (lp (bB he rfl) rfl (aH (bH rfl (fun hc0 => ?_) (fun hc0 => ?_)))))))))))
 refine dP (lp (bM (vs := []) (ps := []) rfl bz_157) rfl (dM rfl rfl (aJ (dR 1 hs k_157 rfl rfl rfl (by simp) (by simp) (by simp [Flat, Value.oneCell']) rfl (fun w hs => dN rfl rfl (aH (aV ⟨_, fX ⟨_, rfl, aP k_157 (hs.g 1 rfl) (by simp)⟩ rfl, ?_⟩)))))))
 have hno : k = .other ∧ rdBytes l n 4 = none := by
  rcases hr with ⟨h, _⟩ | ⟨h, h', _⟩
  exact absurd h hc0
  exact ⟨h, h'⟩
 exact ⟨_, _, k, rfl, (hs.drop hb6).drop hb4, he, by simp, by simp [Flat, Value.oneCell'], .inr ⟨hno.1, fun len => by simp [body, hno.2]⟩⟩
 have hk : k = .ok := by simpa using hc0
 subst hk
 obtain ⟨hbytes, rfl⟩ : rdBytes l n 4 = some (seg l n 4) ∧ cs' = (seg l n 4).map eA := by
  rcases hr with ⟨_, h⟩ | ⟨h, _⟩
  exact h
  cases h
 have hsl : (seg l n 4).length = 4 := by
  unfold rdBytes at hbytes
  split at hbytes
  exact seg_len (by assumption)
  cases hbytes
 have hnl : ((seg l n 4).map eA).length = 4 := by simp [hsl]
 refine aW (dP (lp (aO rfl (aP k_155 (hs.g 0 rfl) hnl)) rfl (lp (fO [(seg l n 4).map eA] st_157 rfl rfl rfl (by simp [hsl]) (List.append_nil _)) rfl (aJ (dR 1 hs k_157 rfl rfl rfl hnl (by simp) (dH _) rfl (fun w hs => dN rfl rfl (aH (aV ⟨_, fX ⟨_, rfl, aP k_157 (hs.g 1 rfl) hnl⟩ rfl, ?_⟩))))))))
 exact ⟨_, _, .ok, rfl, (hs.drop hb6).drop hb4, rfl, hnl, dH _, .inl ⟨_, rfl, fun len => ⟨by simp only [body, hbytes, Option.map_some]; rfl, rfl, hsl⟩⟩⟩
theorem c_unpackAAAA (hG : Gl A V) (hV : V.In w0) (hb : RB V mv l) (n : Nat) (hn : off = n) (h1 : n ≤ 1152921504606846976) (h2 : l.length ≤ 1152921504606846975) :
  eC Tryz.prog 167 #[mv, .int .i64 off] w0 fun v w' => ∃ (cs : List Value) (e : Value) (k : EK), v = .tuple #[.agg cs.toArray, e] ∧ St ⟨w0, V, V⟩ w' [] ∧ ErrV A e k ∧ cs.length = 16 ∧ Flat cs ∧
   ((∃ r, k = .ok ∧ ∀ len, body l n 8 len = some r ∧ fL V 8 0 r cs) ∨ (k = .other ∧ ∀ len, body l n 8 len = none)) := by
 subst hn
 have hs := St.start hV
 refine aT [_, _] Tryz.func167 Tryz.ntmps167 Tryz.results167 rfl rfl (dP (aJ (aX hs z_194 rfl (fun b4 w hb4 he4 hs => dN rfl rfl (aH (dP (aJ (aX hs z_192 rfl (fun b6 w hb6 he6 hs => aH (aF (dP (dM rfl rfl (dM rfl rfl (lp (po_slice_arrA ar_192 (by decide) rfl) rfl (aZ ok_193 rfl rfl (c_unpackBytes (m := 16) (c := 16) hG hs.isIn hb (by rfl) (hs.g 0 rfl) (hs.off (k := 0) rfl) n rfl h1 (by omega) (by omega)) rfl (fun v13 w HF => ?_))))))))))))))))
 obtain ⟨o, k, e, cs', rfl, he, hc, hr⟩ := HF
 replace hs := hs.frame1 (k := 0) rfl rfl hc
 refine dM rfl rfl (dO rfl rfl rfl (dO rfl rfl rfl (dN rfl rfl (dN rfl rfl (aH (dP (dM rfl rfl (lp (bB he rfl) rfl (aH (bH rfl (fun hc0 => ?_) (fun hc0 => ?_)))))))))))
 refine dP (lp (bM (vs := []) (ps := []) rfl bz_194) rfl (dM rfl rfl (aJ (dR 1 hs k_194 rfl rfl rfl (by simp) (by simp) (by simp [Flat, Value.oneCell']) rfl (fun w hs => dN rfl rfl (aH (aV ⟨_, fX ⟨_, rfl, aP k_194 (hs.g 1 rfl) (by simp)⟩ rfl, ?_⟩)))))))
 have hno : k = .other ∧ rdBytes l n 16 = none := by
  rcases hr with ⟨h, _⟩ | ⟨h, h', _⟩
  exact absurd h hc0
  exact ⟨h, h'⟩
 exact ⟨_, _, k, rfl, (hs.drop hb6).drop hb4, he, by simp, by simp [Flat, Value.oneCell'], .inr ⟨hno.1, fun len => by simp [body, hno.2]⟩⟩
 have hk : k = .ok := by simpa using hc0
 subst hk
 obtain ⟨hbytes, rfl⟩ : rdBytes l n 16 = some (seg l n 16) ∧ cs' = (seg l n 16).map eA := by
  rcases hr with ⟨_, h⟩ | ⟨h, _⟩
  exact h
  cases h
 have hsl : (seg l n 16).length = 16 := by
  unfold rdBytes at hbytes
  split at hbytes
  exact seg_len (by assumption)
  cases hbytes
 have hnl : ((seg l n 16).map eA).length = 16 := by simp [hsl]
 refine aW (dP (lp (aO rfl (aP k_192 (hs.g 0 rfl) hnl)) rfl (lp (fO [(seg l n 16).map eA] st_194 rfl rfl rfl (by simp [hsl]) (List.append_nil _)) rfl (aJ (dR 1 hs k_194 rfl rfl rfl hnl (by simp) (dH _) rfl (fun w hs => dN rfl rfl (aH (aV ⟨_, fX ⟨_, rfl, aP k_194 (hs.g 1 rfl) hnl⟩ rfl, ?_⟩))))))))
 exact ⟨_, _, .ok, rfl, (hs.drop hb6).drop hb4, rfl, hnl, dH _, .inl ⟨_, rfl, fun len => ⟨by simp only [body, hbytes, Option.map_some]; rfl, rfl, hsl⟩⟩⟩
end
end Go.Proofs.YtgpfjlfkaoffeaaGreatDoor
namespace Go.Proofs.YtgpfjlfkaoffeaaGreatDoor
open Go
section
variable {A : Nat → Addr} {V : Vw} {w0 : World} {l : List UInt8} {mv : Value} {off : Int}
theorem c_unpackMX (hG : Gl A V) (hV : V.In w0) (hb : RB V mv l) (n : Nat) (hn : off = n) (h1 : n ≤ 1152921504606846975) (h2 : l.length ≤ 1152921504606846975) :
  eC Tryz.prog 165 #[mv, .int .i64 off] w0 fun v w' => ∃ (cs : List Value) (e : Value) (k : EK), v = .tuple #[.agg cs.toArray, e] ∧ St ⟨w0, V, V⟩ w' [] ∧ ErrV A e k ∧ cs.length = 257 ∧ Flat cs ∧
   ((∃ r, k = .ok ∧ ∀ len, body l n 6 len = some r ∧ fL V 6 0 r cs) ∨ (k = .other ∧ ∀ len, body l n 6 len = none)) := by
 subst hn
 have hs := St.start hV
 refine aT [_, _] Tryz.func165 Tryz.ntmps165 Tryz.results165 rfl rfl (dP (aJ (aX hs z_183 rfl (fun b4 w hb4 he4 hs => dN rfl rfl (aH (dP (dM rfl rfl (dM rfl rfl (aZ ok_149 rfl rfl (cP hG hs.isIn hb n rfl (by omega) (by omega)) rfl (fun v14 w HF => ?_))))))))))
 obtain ⟨hc, x, o, k, e, rfl, he, hr⟩ := HF
 replace hs := hs.frame hc
 refine dM rfl rfl (dO rfl rfl rfl (dO rfl rfl rfl (dO rfl rfl rfl (dN rfl rfl (dN rfl rfl (dN rfl rfl (aH (aF (dP (dM rfl rfl (lp (bB he rfl) rfl (aH (bH rfl (fun hc0 => ?_) (fun hc0 => ?_))))))))))))))
 refine dP (lp (bM (vs := []) (ps := []) rfl bz_183) rfl (dM rfl rfl (lp (bL rfl (by (simp only [List.all_cons, List.all_nil, he.oneCell]; rfl)) (eI _ _)) rfl (aJ (cR hs rfl rfl rfl (fun b23 w hb23 hbe23 hs => ?_))))))
 replace hs := hs.drop hb23
 refine lp (cG Tryz.underlying139 (fun _ h => by cases h) rfl) rfl (aJ (dR 0 hs k_183 rfl rfl rfl (by simp) (by simp) (aG (by decide +kernel)) rfl (fun w hs => dN rfl rfl (aH (aV ⟨_, fX ⟨_, rfl, aP k_183 (hs.g 0 rfl) (by simp)⟩ rfl, ?_⟩)))))
 exact ⟨_, _, .other, rfl, hs.drop hb4, dA, by simp, aG (by decide +kernel), .inr ⟨rfl, fun len => by simp [body, (hr.bad hc0).2]⟩⟩
 have hk : k = .ok := by simpa using hc0
 subst hk
 obtain ⟨hx, rfl, hxe, hl0⟩ := hr.ok
 have hxl := hr.lt.1
 refine aW (dP (aJ (aX hs z_86 rfl (fun b8 w hb8 he8 hs => ?_))))
 rw [rep256] at hs
 refine aH (aF (dP (dM rfl rfl (dM rfl rfl (aZ ok_151 rfl rfl (c_nameUnpack (pre := []) (post := []) hG hs.isIn hb rfl (by have := hs.g 0 rfl; rw [List.nil_append, List.append_nil]; exact this) (hs.off (k := 0) rfl) (n + 2) rfl (by omega) (by omega)) rfl (fun v28 w HF => ?_))))))
 obtain ⟨o, k, e, out, z, rfl, he, ho, hz, hc, hr⟩ := HF
 replace hs := hs.frame1 (k := 0) rfl rfl hc
 rw [List.nil_append, List.append_nil] at hs
 have hnl := cM (n := z) (Nat.le_trans ho (by decide : 254 ≤ 255))
 refine dM rfl rfl (dO rfl rfl rfl (dO rfl rfl rfl (dN rfl rfl (dN rfl rfl (aH (dP (dM rfl rfl (lp (bB he rfl) rfl (aH (bH rfl (fun hc1 => ?_) (fun hc1 => ?_)))))))))))
 refine dP (lp (bM (vs := []) (ps := []) rfl bz_183) rfl (dM rfl rfl (lp (bL rfl (by (simp only [List.all_cons, List.all_nil, he.oneCell]; rfl)) (eI _ _)) rfl (aJ (cR hs rfl rfl rfl (fun b36 w hb36 hbe36 hs => ?_))))))
 replace hs := hs.drop hb36
 refine lp (cG Tryz.underlying139 (fun _ h => by cases h) rfl) rfl (aJ (dR 1 hs k_183 rfl rfl rfl (by simp) (by simp [cM]) (aG (by decide +kernel)) rfl (fun w hs => dN rfl rfl (aH (aV ⟨_, fX ⟨_, rfl, aP k_183 (hs.g 1 rfl) (by simp)⟩ rfl, ?_⟩)))))
 exact ⟨_, _, .other, rfl, (hs.drop hb8).drop hb4, dA, by simp, aG (by decide +kernel), .inr ⟨rfl, fun len => by simp [body, hx, (hr.bad hc1).2]⟩⟩
 have hk : k = .ok := by simpa using hc1
 subst hk
 obtain ⟨hname, rfl⟩ := hr.ok
 refine aW (dP (dM rfl rfl (lp (aO rfl (aP k_86 (hs.g 0 rfl) hnl)) rfl (lp (fO [[.int .u16 x], nmC out out.length] st_183 rfl rfl rfl (by simp [hnl]) (show _ = .int .u16 x :: nmC out out.length by simp)) rfl ?_))))
 have hln : (Value.int .u16 x :: nmC out out.length).length = 257 := by simp [hnl]
 refine aJ (dR 1 hs k_183 rfl rfl rfl hln (by simp [cM]) (bX rfl (eU _ _)) rfl (fun w hs => dN rfl rfl (aH (aV ⟨_, fX ⟨_, rfl, aP k_183 (hs.g 1 rfl) hln⟩ rfl, ?_⟩))))
 exact ⟨_, _, .ok, rfl, (hs.drop hb8).drop hb4, rfl, hln, bX rfl (eU _ _), .inl ⟨_, rfl, fun len => ⟨by simp only [body, hx, hname, Option.bind_some, Option.map_some]; rfl, rfl, ho, hxl⟩⟩⟩
theorem c_unpackSRV (hG : Gl A V) (hV : V.In w0) (hb : RB V mv l) (n : Nat) (hn : off = n) (h1 : n ≤ 1152921504606846970) (h2 : l.length ≤ 1152921504606846975) :
  eC Tryz.prog 168 #[mv, .int .i64 off] w0 fun v w' => ∃ (cs : List Value) (e : Value) (k : EK), v = .tuple #[.agg cs.toArray, e] ∧ St ⟨w0, V, V⟩ w' [] ∧ ErrV A e k ∧ cs.length = 259 ∧ Flat cs ∧
   ((∃ r, k = .ok ∧ ∀ len, body l n 9 len = some r ∧ fL V 9 0 r cs) ∨ (k = .other ∧ ∀ len, body l n 9 len = none)) := by
 subst hn
 have hs := St.start hV
 refine aT [_, _] Tryz.func168 Tryz.ntmps168 Tryz.results168 rfl rfl (dP (aJ (aX hs z_199 rfl (fun b4 w hb4 he4 hs => dN rfl rfl (aH (dP (dM rfl rfl (dM rfl rfl (aZ ok_149 rfl rfl (cP hG hs.isIn hb n rfl (by omega) (by omega)) rfl (fun v16 w HF => ?_))))))))))
 obtain ⟨hc, x1, o, k, e, rfl, he, hr⟩ := HF
 replace hs := hs.frame hc
 refine dM rfl rfl (dO rfl rfl rfl (dO rfl rfl rfl (dO rfl rfl rfl (dN rfl rfl (dN rfl rfl (dN rfl rfl (aH (aF (dP (dM rfl rfl (lp (bB he rfl) rfl (aH (bH rfl (fun hc0 => ?_) (fun hc0 => ?_))))))))))))))
 refine dP (lp (bM (vs := []) (ps := []) rfl bz_199) rfl (dM rfl rfl (lp (bL rfl (by (simp only [List.all_cons, List.all_nil, he.oneCell]; rfl)) (eI _ _)) rfl (aJ (cR hs rfl rfl rfl (fun b25 w hb25 hbe25 hs => ?_))))))
 replace hs := hs.drop hb25
 refine lp (cG Tryz.underlying139 (fun _ h => by cases h) rfl) rfl (aJ (dR 0 hs k_199 rfl rfl rfl (by simp) (by simp) (aG (by decide +kernel)) rfl (fun w hs => dN rfl rfl (aH (aV ⟨_, fX ⟨_, rfl, aP k_199 (hs.g 0 rfl) (by simp)⟩ rfl, ?_⟩)))))
 exact ⟨_, _, .other, rfl, hs.drop hb4, dA, by simp, aG (by decide +kernel), .inr ⟨rfl, fun len => by simp [body, (hr.bad hc0).2]⟩⟩
 have hk : k = .ok := by simpa using hc0
 subst hk
 obtain ⟨hx1, rfl, hxe1, hl0⟩ := hr.ok
 have hxl1 := hr.lt.1
 refine aW (dP (dM rfl rfl (dM rfl rfl (aZ ok_149 rfl rfl (cP hG hs.isIn hb (n + 2) rfl (by omega) (by omega)) rfl (fun v30 w HF => ?_)))))
 obtain ⟨hc, x2, o, k, e, rfl, he, hr⟩ := HF
 replace hs := hs.frame hc
 refine dM rfl rfl (dO rfl rfl rfl (dO rfl rfl rfl (dO rfl rfl rfl (dN rfl rfl (dN rfl rfl (dN rfl rfl (aH (aF (dP (dM rfl rfl (lp (bB he rfl) rfl (aH (bH rfl (fun hc1 => ?_) (fun hc1 => ?_))))))))))))))
 refine dP (lp (bM (vs := []) (ps := []) rfl bz_199) rfl (dM rfl rfl (lp (bL rfl (by (simp only [List.all_cons, List.all_nil, he.oneCell]; rfl)) (eI _ _)) rfl (aJ (cR hs rfl rfl rfl (fun b39 w hb39 hbe39 hs => ?_))))))
 replace hs := hs.drop hb39
 refine lp (cG Tryz.underlying139 (fun _ h => by cases h) rfl) rfl (aJ (dR 0 hs k_199 rfl rfl rfl (by simp) (by simp) (aG (by decide +kernel)) rfl (fun w hs => dN rfl rfl (aH (aV ⟨_, fX ⟨_, rfl, aP k_199 (hs.g 0 rfl) (by simp)⟩ rfl, ?_⟩)))))
 exact ⟨_, _, .other, rfl, hs.drop hb4, dA, by simp, aG (by decide +kernel), .inr ⟨rfl, fun len => by simp [body, hx1, (hr.bad hc1).2]⟩⟩
 have hk : k = .ok := by simpa using hc1
 subst hk
 obtain ⟨hx2, rfl, hxe2, hl0⟩ := hr.ok
 have hxl2 := hr.lt.1
 refine aW (dP (dM rfl rfl (dM rfl rfl (aZ ok_149 rfl rfl (cP hG hs.isIn hb (n + 4) (by omega) (by omega) (by omega)) rfl (fun v44 w HF => ?_)))))
 obtain ⟨hc, x3, o, k, e, rfl, he, hr⟩ := HF
 replace hs := hs.frame hc
 refine dM rfl rfl (dO rfl rfl rfl (dO rfl rfl rfl (dO rfl rfl rfl (dN rfl rfl (dN rfl rfl (dN rfl rfl (aH (aF (dP (dM rfl rfl (lp (bB he rfl) rfl (aH (bH rfl (fun hc2 => ?_) (fun hc2 => ?_))))))))))))))
 refine dP (lp (bM (vs := []) (ps := []) rfl bz_199) rfl (dM rfl rfl (lp (bL rfl (by (simp only [List.all_cons, List.all_nil, he.oneCell]; rfl)) (eI _ _)) rfl (aJ (cR hs rfl rfl rfl (fun b53 w hb53 hbe53 hs => ?_))))))
 replace hs := hs.drop hb53
 refine lp (cG Tryz.underlying139 (fun _ h => by cases h) rfl) rfl (aJ (dR 0 hs k_199 rfl rfl rfl (by simp) (by simp) (aG (by decide +kernel)) rfl (fun w hs => dN rfl rfl (aH (aV ⟨_, fX ⟨_, rfl, aP k_199 (hs.g 0 rfl) (by simp)⟩ rfl, ?_⟩)))))
 exact ⟨_, _, .other, rfl, hs.drop hb4, dA, by simp, aG (by decide +kernel), .inr ⟨rfl, fun len => by simp [body, hx1, hx2, (hr.bad hc2).2]⟩⟩
 have hk : k = .ok := by simpa using hc2
 subst hk
 obtain ⟨hx3, rfl, hxe3, hl0⟩ := hr.ok
 have hxl3 := hr.lt.1
 refine aW (dP (aJ (aX hs z_86 rfl (fun b10 w hb10 he10 hs => ?_))))
 rw [rep256] at hs
 refine aH (aF (dP (dM rfl rfl (dM rfl rfl (aZ ok_151 rfl rfl (c_nameUnpack (pre := []) (post := []) hG hs.isIn hb rfl (by have := hs.g 0 rfl; rw [List.nil_append, List.append_nil]; exact this) (hs.off (k := 0) rfl) (n + 6) (by omega) (by omega) (by omega)) rfl (fun v58 w HF => ?_))))))
 obtain ⟨o, k, e, out, z, rfl, he, ho, hz, hc, hr⟩ := HF
 replace hs := hs.frame1 (k := 0) rfl rfl hc
 rw [List.nil_append, List.append_nil] at hs
 have hnl := cM (n := z) (Nat.le_trans ho (by decide : 254 ≤ 255))
 refine dM rfl rfl (dO rfl rfl rfl (dO rfl rfl rfl (dN rfl rfl (dN rfl rfl (aH (dP (dM rfl rfl (lp (bB he rfl) rfl (aH (bH rfl (fun hc3 => ?_) (fun hc3 => ?_)))))))))))
 refine dP (lp (bM (vs := []) (ps := []) rfl bz_199) rfl (dM rfl rfl (lp (bL rfl (by (simp only [List.all_cons, List.all_nil, he.oneCell]; rfl)) (eI _ _)) rfl (aJ (cR hs rfl rfl rfl (fun b66 w hb66 hbe66 hs => ?_))))))
 replace hs := hs.drop hb66
 refine lp (cG Tryz.underlying139 (fun _ h => by cases h) rfl) rfl (aJ (dR 1 hs k_199 rfl rfl rfl (by simp) (by simp [cM]) (aG (by decide +kernel)) rfl (fun w hs => dN rfl rfl (aH (aV ⟨_, fX ⟨_, rfl, aP k_199 (hs.g 1 rfl) (by simp)⟩ rfl, ?_⟩)))))
 exact ⟨_, _, .other, rfl, (hs.drop hb10).drop hb4, dA, by simp, aG (by decide +kernel), .inr ⟨rfl, fun len => by simp [body, hx1, hx2, hx3, (hr.bad hc3).2]⟩⟩
 have hk : k = .ok := by simpa using hc3
 subst hk
 obtain ⟨hname, rfl⟩ := hr.ok
 refine aW (dP (dM rfl rfl (dM rfl rfl (dM rfl rfl (lp (aO rfl (aP k_86 (hs.g 0 rfl) hnl)) rfl (lp (fO [[.int .u16 x1], [.int .u16 x2], [.int .u16 x3], nmC out out.length] st_199 rfl rfl rfl (by simp [hnl]) (show _ = .int .u16 x1 :: .int .u16 x2 :: .int .u16 x3 :: nmC out out.length by simp)) rfl ?_))))))
 have hln : (Value.int .u16 x1 :: .int .u16 x2 :: .int .u16 x3 :: nmC out out.length).length = 259 := by simp [hnl]
 have hfl : Flat (Value.int .u16 x1 :: .int .u16 x2 :: .int .u16 x3 :: nmC out out.length) := bX rfl (bX rfl (bX rfl (eU _ _)))
 refine aJ (dR 1 hs k_199 rfl rfl rfl hln (by simp [cM]) hfl rfl (fun w hs => dN rfl rfl (aH (aV ⟨_, fX ⟨_, rfl, aP k_199 (hs.g 1 rfl) hln⟩ rfl, ?_⟩))))
 exact ⟨_, _, .ok, rfl, (hs.drop hb10).drop hb4, rfl, hln, hfl, .inl ⟨_, rfl, fun len => ⟨by simp only [body, hx1, hx2, hx3, hname, Option.bind_some, Option.map_some]; rfl, rfl, ho, hxl1, hxl2, hxl3⟩⟩⟩
theorem c_unpackSOA (hG : Gl A V) (hV : V.In w0) (hb : RB V mv l) (n : Nat) (hn : off = n) (h1 : n ≤ 1152921504606846970) (h2 : l.length ≤ 1152921504606846900) :
  eC Tryz.prog 163 #[mv, .int .i64 off] w0 fun v w' => ∃ (cs : List Value) (e : Value) (k : EK), v = .tuple #[.agg cs.toArray, e] ∧ St ⟨w0, V, V⟩ w' [] ∧ ErrV A e k ∧ cs.length = 517 ∧ Flat cs ∧
   ((∃ r, k = .ok ∧ ∀ len, body l n 4 len = some r ∧ fL V 4 0 r cs) ∨ (k = .other ∧ ∀ len, body l n 4 len = none)) := by
 subst hn
 have hs := St.start hV
 refine aT [_, _] Tryz.func163 Tryz.ntmps163 Tryz.results163 rfl rfl (dP (aJ (aX hs z_173 rfl (fun b4 w hb4 he4 hs => dN rfl rfl (aH (dP (aJ (aX hs z_86 rfl (fun b6 w hb6 he6 hs => ?_)))))))))
 rw [rep256] at hs
 refine aH (dP (dM rfl rfl (dM rfl rfl (aZ ok_151 rfl rfl (c_nameUnpack (pre := []) (post := []) hG hs.isIn hb rfl (by have := hs.g 0 rfl; rw [List.nil_append, List.append_nil]; exact this) (hs.off (k := 0) rfl) n rfl (by omega) (by omega)) rfl (fun v18 w HF => ?_)))))
 obtain ⟨o, k, e, out, z, rfl, he, ho, hz, hc, hr⟩ := HF
 replace hs := hs.frame1 (k := 0) rfl rfl hc
 rw [List.nil_append, List.append_nil] at hs
 have hnl := cM (n := z) (Nat.le_trans ho (by decide : 254 ≤ 255))
 refine dM rfl rfl (dO rfl rfl rfl (dO rfl rfl rfl (dN rfl rfl (dN rfl rfl (aH (aF (dP (dM rfl rfl (lp (bB he rfl) rfl (aH (bH rfl (fun hc0 => ?_) (fun hc0 => ?_))))))))))))
 refine dP (lp (bM (vs := []) (ps := []) rfl bz_173) rfl (dM rfl rfl (lp (bL rfl (by (simp only [List.all_cons, List.all_nil, he.oneCell]; rfl)) (eI _ _)) rfl (aJ (cR hs rfl rfl rfl (fun b26 w hb26 hbe26 hs => ?_))))))
 replace hs := hs.drop hb26
 refine lp (cG Tryz.underlying139 (fun _ h => by cases h) rfl) rfl (aJ (dR 1 hs k_173 rfl rfl rfl (by simp) (by simp [cM]) (aG (by decide +kernel)) rfl (fun w hs => dN rfl rfl (aH (aV ⟨_, fX ⟨_, rfl, aP k_173 (hs.g 1 rfl) (by simp)⟩ rfl, ?_⟩)))))
 exact ⟨_, _, .other, rfl, (hs.drop hb6).drop hb4, dA, by simp, aG (by decide +kernel), .inr ⟨rfl, fun len => by simp [body, (hr.bad hc0).2]⟩⟩
 have hk : k = .ok := by simpa using hc0
 subst hk
 obtain ⟨hname, rfl⟩ := hr.ok
 have hol := (name_some hname).2.2
 refine aW (dP (aJ (aX hs z_86 rfl (fun b8 w hb8 he8 hs => ?_))))
 rw [rep256] at hs
 refine aH (aF (dP (dM rfl rfl (dM rfl rfl (aZ ok_151 rfl rfl (c_nameUnpack (pre := []) (post := []) hG hs.isIn hb rfl (by have := hs.g 0 rfl; rw [List.nil_append, List.append_nil]; exact this) (hs.off (k := 0) rfl) o rfl (by omega) (by omega)) rfl (fun v31 w HF => ?_))))))
 obtain ⟨o2, k, e, out2, z, rfl, he, ho2, hz2, hc, hr⟩ := HF
 replace hs := hs.frame1 (k := 0) rfl rfl hc
 rw [List.nil_append, List.append_nil] at hs
 have hnl2 := cM (n := z) (Nat.le_trans ho2 (by decide : 254 ≤ 255))
 refine dM rfl rfl (dO rfl rfl rfl (dO rfl rfl rfl (dN rfl rfl (dN rfl rfl (aH (dP (dM rfl rfl (lp (bB he rfl) rfl (aH (bH rfl (fun hc1 => ?_) (fun hc1 => ?_)))))))))))
 refine dP (lp (bM (vs := []) (ps := []) rfl bz_173) rfl (dM rfl rfl (lp (bL rfl (by (simp only [List.all_cons, List.all_nil, he.oneCell]; rfl)) (eI _ _)) rfl (aJ (cR hs rfl rfl rfl (fun b39 w hb39 hbe39 hs => ?_))))))
 replace hs := hs.drop hb39
 refine lp (cG Tryz.underlying139 (fun _ h => by cases h) rfl) rfl (aJ (dR 2 hs k_173 rfl rfl rfl (by simp) (by simp [cM]) (aG (by decide +kernel)) rfl (fun w hs => dN rfl rfl (aH (aV ⟨_, fX ⟨_, rfl, aP k_173 (hs.g 2 rfl) (by simp)⟩ rfl, ?_⟩)))))
 exact ⟨_, _, .other, rfl, ((hs.drop hb8).drop hb6).drop hb4, dA, by simp, aG (by decide +kernel), .inr ⟨rfl, fun len => by simp [body, hname, (hr.bad hc1).2]⟩⟩
 have hk : k = .ok := by simpa using hc1
 subst hk
 obtain ⟨hname2, rfl⟩ := hr.ok
 have hol2 := (name_some hname2).2.2
 refine aW (dP (dM rfl rfl (dM rfl rfl (aZ ok_194 rfl rfl (c_unpackUint32 hG hs.isIn hb (o2) (by omega) (by omega) (by omega)) rfl (fun v44 w HF => ?_)))))
 obtain ⟨hc, x1, o3, k, e, rfl, he, hr⟩ := HF
 replace hs := hs.frame hc
 refine dM rfl rfl (dO rfl rfl rfl (dO rfl rfl rfl (dO rfl rfl rfl (dN rfl rfl (dN rfl rfl (dN rfl rfl (aH (aF (dP (dM rfl rfl (lp (bB he rfl) rfl (aH (bH rfl (fun hc2 => ?_) (fun hc2 => ?_))))))))))))))
 refine dP (lp (bM (vs := []) (ps := []) rfl bz_173) rfl (dM rfl rfl (lp (bL rfl (by (simp only [List.all_cons, List.all_nil, he.oneCell]; rfl)) (eI _ _)) rfl (aJ (cR hs rfl rfl rfl (fun b53 w hb53 hbe53 hs => ?_))))))
 replace hs := hs.drop hb53
 refine lp (cG Tryz.underlying139 (fun _ h => by cases h) rfl) rfl (aJ (dR 2 hs k_173 rfl rfl rfl (by simp) (by simp [cM]) (aG (by decide +kernel)) rfl (fun w hs => dN rfl rfl (aH (aV ⟨_, fX ⟨_, rfl, aP k_173 (hs.g 2 rfl) (by simp)⟩ rfl, ?_⟩)))))
 exact ⟨_, _, .other, rfl, ((hs.drop hb8).drop hb6).drop hb4, dA, by simp, aG (by decide +kernel), .inr ⟨rfl, fun len => by simp [body, hname, hname2, (hr.bad hc2).2]⟩⟩
 have hk : k = .ok := by simpa using hc2
 subst hk
 obtain ⟨hx1, rfl, hxe, hl0⟩ := hr.ok
 refine aW (dP (dM rfl rfl (dM rfl rfl (aZ ok_194 rfl rfl (c_unpackUint32 hG hs.isIn hb (o2 + 4) (by omega) (by omega) (by omega)) rfl (fun v58 w HF => ?_)))))
 obtain ⟨hc, x2, o3, k, e, rfl, he, hr⟩ := HF
 replace hs := hs.frame hc
 refine dM rfl rfl (dO rfl rfl rfl (dO rfl rfl rfl (dO rfl rfl rfl (dN rfl rfl (dN rfl rfl (dN rfl rfl (aH (aF (dP (dM rfl rfl (lp (bB he rfl) rfl (aH (bH rfl (fun hc3 => ?_) (fun hc3 => ?_))))))))))))))
 refine dP (lp (bM (vs := []) (ps := []) rfl bz_173) rfl (dM rfl rfl (lp (bL rfl (by (simp only [List.all_cons, List.all_nil, he.oneCell]; rfl)) (eI _ _)) rfl (aJ (cR hs rfl rfl rfl (fun b67 w hb67 hbe67 hs => ?_))))))
 replace hs := hs.drop hb67
 refine lp (cG Tryz.underlying139 (fun _ h => by cases h) rfl) rfl (aJ (dR 2 hs k_173 rfl rfl rfl (by simp) (by simp [cM]) (aG (by decide +kernel)) rfl (fun w hs => dN rfl rfl (aH (aV ⟨_, fX ⟨_, rfl, aP k_173 (hs.g 2 rfl) (by simp)⟩ rfl, ?_⟩)))))
 exact ⟨_, _, .other, rfl, ((hs.drop hb8).drop hb6).drop hb4, dA, by simp, aG (by decide +kernel), .inr ⟨rfl, fun len => by simp [body, hname, hname2, hx1, (hr.bad hc3).2]⟩⟩
 have hk : k = .ok := by simpa using hc3
 subst hk
 obtain ⟨hx2, rfl, hxe, hl0⟩ := hr.ok
 refine aW (dP (dM rfl rfl (dM rfl rfl (aZ ok_194 rfl rfl (c_unpackUint32 hG hs.isIn hb (o2 + 8) (by omega) (by omega) (by omega)) rfl (fun v72 w HF => ?_)))))
 obtain ⟨hc, x3, o3, k, e, rfl, he, hr⟩ := HF
 replace hs := hs.frame hc
 refine dM rfl rfl (dO rfl rfl rfl (dO rfl rfl rfl (dO rfl rfl rfl (dN rfl rfl (dN rfl rfl (dN rfl rfl (aH (aF (dP (dM rfl rfl (lp (bB he rfl) rfl (aH (bH rfl (fun hc4 => ?_) (fun hc4 => ?_))))))))))))))
 refine dP (lp (bM (vs := []) (ps := []) rfl bz_173) rfl (dM rfl rfl (lp (bL rfl (by (simp only [List.all_cons, List.all_nil, he.oneCell]; rfl)) (eI _ _)) rfl (aJ (cR hs rfl rfl rfl (fun b81 w hb81 hbe81 hs => ?_))))))
 replace hs := hs.drop hb81
 refine lp (cG Tryz.underlying139 (fun _ h => by cases h) rfl) rfl (aJ (dR 2 hs k_173 rfl rfl rfl (by simp) (by simp [cM]) (aG (by decide +kernel)) rfl (fun w hs => dN rfl rfl (aH (aV ⟨_, fX ⟨_, rfl, aP k_173 (hs.g 2 rfl) (by simp)⟩ rfl, ?_⟩)))))
 exact ⟨_, _, .other, rfl, ((hs.drop hb8).drop hb6).drop hb4, dA, by simp, aG (by decide +kernel), .inr ⟨rfl, fun len => by simp [body, hname, hname2, hx1, hx2, (hr.bad hc4).2]⟩⟩
 have hk : k = .ok := by simpa using hc4
 subst hk
 obtain ⟨hx3, rfl, hxe, hl0⟩ := hr.ok
 refine aW (dP (dM rfl rfl (dM rfl rfl (aZ ok_194 rfl rfl (c_unpackUint32 hG hs.isIn hb (o2 + 12) (by omega) (by omega) (by omega)) rfl (fun v86 w HF => ?_)))))
 obtain ⟨hc, x4, o3, k, e, rfl, he, hr⟩ := HF
 replace hs := hs.frame hc
 refine dM rfl rfl (dO rfl rfl rfl (dO rfl rfl rfl (dO rfl rfl rfl (dN rfl rfl (dN rfl rfl (dN rfl rfl (aH (aF (dP (dM rfl rfl (lp (bB he rfl) rfl (aH (bH rfl (fun hc5 => ?_) (fun hc5 => ?_))))))))))))))
 refine dP (lp (bM (vs := []) (ps := []) rfl bz_173) rfl (dM rfl rfl (lp (bL rfl (by (simp only [List.all_cons, List.all_nil, he.oneCell]; rfl)) (eI _ _)) rfl (aJ (cR hs rfl rfl rfl (fun b95 w hb95 hbe95 hs => ?_))))))
 replace hs := hs.drop hb95
 refine lp (cG Tryz.underlying139 (fun _ h => by cases h) rfl) rfl (aJ (dR 2 hs k_173 rfl rfl rfl (by simp) (by simp [cM]) (aG (by decide +kernel)) rfl (fun w hs => dN rfl rfl (aH (aV ⟨_, fX ⟨_, rfl, aP k_173 (hs.g 2 rfl) (by simp)⟩ rfl, ?_⟩)))))
 exact ⟨_, _, .other, rfl, ((hs.drop hb8).drop hb6).drop hb4, dA, by simp, aG (by decide +kernel), .inr ⟨rfl, fun len => by simp [body, hname, hname2, hx1, hx2, hx3, (hr.bad hc5).2]⟩⟩
 have hk : k = .ok := by simpa using hc5
 subst hk
 obtain ⟨hx4, rfl, hxe, hl0⟩ := hr.ok
 refine aW (dP (dM rfl rfl (dM rfl rfl (aZ ok_194 rfl rfl (c_unpackUint32 hG hs.isIn hb (o2 + 16) (by omega) (by omega) (by omega)) rfl (fun v100 w HF => ?_)))))
 obtain ⟨hc, x5, o3, k, e, rfl, he, hr⟩ := HF
 replace hs := hs.frame hc
 refine dM rfl rfl (dO rfl rfl rfl (dO rfl rfl rfl (dO rfl rfl rfl (dN rfl rfl (dN rfl rfl (dN rfl rfl (aH (aF (dP (dM rfl rfl (lp (bB he rfl) rfl (aH (bH rfl (fun hc6 => ?_) (fun hc6 => ?_))))))))))))))
 refine dP (lp (bM (vs := []) (ps := []) rfl bz_173) rfl (dM rfl rfl (lp (bL rfl (by (simp only [List.all_cons, List.all_nil, he.oneCell]; rfl)) (eI _ _)) rfl (aJ (cR hs rfl rfl rfl (fun b109 w hb109 hbe109 hs => ?_))))))
 replace hs := hs.drop hb109
 refine lp (cG Tryz.underlying139 (fun _ h => by cases h) rfl) rfl (aJ (dR 2 hs k_173 rfl rfl rfl (by simp) (by simp [cM]) (aG (by decide +kernel)) rfl (fun w hs => dN rfl rfl (aH (aV ⟨_, fX ⟨_, rfl, aP k_173 (hs.g 2 rfl) (by simp)⟩ rfl, ?_⟩)))))
 exact ⟨_, _, .other, rfl, ((hs.drop hb8).drop hb6).drop hb4, dA, by simp, aG (by decide +kernel), .inr ⟨rfl, fun len => by simp [body, hname, hname2, hx1, hx2, hx3, hx4, (hr.bad hc6).2]⟩⟩
 have hk : k = .ok := by simpa using hc6
 subst hk
 obtain ⟨hx5, rfl, hxe, hl0⟩ := hr.ok
 refine aW (dP (lp (aO rfl (aP k_86 (hs.g 1 rfl) hnl)) rfl (lp (aO rfl (aP k_86 (hs.g 0 rfl) hnl2)) rfl (dM rfl rfl (dM rfl rfl (dM rfl rfl (dM rfl rfl (dM rfl rfl (lp (fO [nmC out out.length, nmC out2 out2.length, [.int .u32 x1], [.int .u32 x2], [.int .u32 x3], [.int .u32 x4], [.int .u32 x5]] st_173 rfl rfl rfl (by simp [hnl, hnl2]) (show _ = nmC out out.length ++ nmC out2 out2.length ++ [.int .u32 x1, .int .u32 x2, .int .u32 x3, .int .u32 x4, .int .u32 x5] by simp)) rfl ?_)))))))))
 have hln : (nmC out out.length ++ nmC out2 out2.length ++ [Value.int .u32 x1, .int .u32 x2, .int .u32 x3, .int .u32 x4, .int .u32 x5]).length = 517 := by simp [hnl, hnl2]
 have hfl : Flat (nmC out out.length ++ nmC out2 out2.length ++ [Value.int .u32 x1, .int .u32 x2, .int .u32 x3, .int .u32 x4, .int .u32 x5]) := fD (fD (eU _ _) (eU _ _)) (aG rfl)
 refine aJ (dR 2 hs k_173 rfl rfl rfl hln (by simp [cM]) hfl rfl (fun w hs => dN rfl rfl (aH (aV ⟨_, fX ⟨_, rfl, aP k_173 (hs.g 2 rfl) hln⟩ rfl, ?_⟩))))
 exact ⟨_, _, .ok, rfl, ((hs.drop hb8).drop hb6).drop hb4, rfl, hln, hfl, .inl ⟨_, rfl, fun len => ⟨by simp only [body, hname, hname2, hx1, hx2, hx3, hx4, hx5, Option.bind_some, Option.map_some]; rfl, rfl, ho, ho2⟩⟩⟩
end
end Go.Proofs.YtgpfjlfkaoffeaaGreatDoor

/- Packing: bodies converted, of one piece. Packing: bodies converted, with lists. -/
import Derived.Test.YtgpfjlfkaoffeaaGreatDoorP36
set_option linter.all false
namespace Go.Proofs.YtgpfjlfkaoffeaaGreatDoor
open Go
theorem u16mod {n : Nat} : IntKind.u16.wrap ((n : Nat) : Int) = ((n % 65536 : Nat) : Int) := by
 have h1 : IntKind.u16.wrap (n : Int) = (n : Int) % 65536 := by simp [IntKind.wrap, IntKind.signed, IntKind.bits]
 rw [h1]; omega
theorem padTo_cells (d : List UInt8) (n : Nat) : (rep n (Value.int .u8 0)).take 0 ++ (d.take (Nat.min d.length n)).map byteVal ++ (rep n (Value.int .u8 0)).drop (0 + Nat.min d.length n * 1) = (padTo d n).map byteVal := by
 unfold padTo
 have e : d.take (Nat.min d.length n) = d.take n := by
  rcases Nat.le_total d.length n with h | h
  rw [show Nat.min d.length n = d.length from Nat.min_eq_left h, List.take_length, List.take_of_length_le h]
  rw [show Nat.min d.length n = n from Nat.min_eq_right h]
 have e2 : n - Nat.min d.length n = n - d.length := by
  rcases Nat.le_total d.length n with h | h
  rw [show Nat.min d.length n = d.length from Nat.min_eq_left h]
  rw [show Nat.min d.length n = n from Nat.min_eq_right h]; omega
 rw [e]
 simp only [List.take_zero, List.nil_append, List.map_append, List.map_replicate, rep, List.drop_replicate, Nat.zero_add, Nat.mul_one, e2]
 rfl
section
variable {A : Nat → Addr} {V : Vw} {w0 : World} {r : PRec} {vd vt vp : Value}
theorem p_nsOf (hV : V.In w0) (hsz : r.host.length ≤ 4294967296) : CallsV Tryz.prog 131 #[.agg (recC r vd vt vp).toArray] w0 fun v w' => v = .agg (nmC (fitP r.host) (fitP r.host).length).toArray ∧ St ⟨w0, V, V⟩ w' [] := by
 have hn := cM (n := (fitP r.host).length) (fitP_len r.host)
 have hs := St.start hV
 refine aT [_] Tryz.func131 Tryz.ntmps131 Tryz.results131 rfl rfl (dP (aJ (cR hs rfl rfl rfl (fun b1 w hb1 hbe1 hs => aJ (aX hs z_163 rfl (fun b2 w hb2 he2 hs => aH (dP (lp (aR fo_30_7 rfl) rfl (lp (aO rfl (aQ k_9 (hs.g 1 rfl) rfl)) rfl (aZ ok_59 rfl rfl (c_nameOf hs.isIn r.host hsz) rfl (fun v5 w HF => ?_)))))))))))
 obtain ⟨rfl, hc⟩ := HF
 replace hs := hs.frame hc
 refine lp (po_buildG [nmC (fitP r.host) (fitP r.host).length] st_163 rfl rfl rfl (by simp [hn]) (show _ = nmC (fitP r.host) (fitP r.host).length by simp)) rfl (aJ (dR 0 hs k_163 rfl rfl rfl hn (by simp) (flat_nmC _ _) rfl (fun w hs => aH (aV ⟨_, res1 ⟨_, rfl, aP k_163 (hs.g 0 rfl) hn⟩, ?_⟩))))
 exact ⟨rfl, (hs.drop hb2).drop hb1⟩
theorem p_cnameOf (hV : V.In w0) (hsz : r.host.length ≤ 4294967296) : CallsV Tryz.prog 132 #[.agg (recC r vd vt vp).toArray] w0 fun v w' => v = .agg (nmC (fitP r.host) (fitP r.host).length).toArray ∧ St ⟨w0, V, V⟩ w' [] := by
 have hn := cM (n := (fitP r.host).length) (fitP_len r.host)
 have hs := St.start hV
 refine aT [_] Tryz.func132 Tryz.ntmps132 Tryz.results132 rfl rfl (dP (aJ (cR hs rfl rfl rfl (fun b1 w hb1 hbe1 hs => aJ (aX hs z_168 rfl (fun b2 w hb2 he2 hs => aH (dP (lp (aR fo_30_7 rfl) rfl (lp (aO rfl (aQ k_9 (hs.g 1 rfl) rfl)) rfl (aZ ok_59 rfl rfl (c_nameOf hs.isIn r.host hsz) rfl (fun v5 w HF => ?_)))))))))))
 obtain ⟨rfl, hc⟩ := HF
 replace hs := hs.frame hc
 refine lp (po_buildG [nmC (fitP r.host) (fitP r.host).length] st_168 rfl rfl rfl (by simp [hn]) (show _ = nmC (fitP r.host) (fitP r.host).length by simp)) rfl (aJ (dR 0 hs k_168 rfl rfl rfl hn (by simp) (flat_nmC _ _) rfl (fun w hs => aH (aV ⟨_, res1 ⟨_, rfl, aP k_168 (hs.g 0 rfl) hn⟩, ?_⟩))))
 exact ⟨rfl, (hs.drop hb2).drop hb1⟩
theorem p_ptrOf (hV : V.In w0) (hsz : r.host.length ≤ 4294967296) : CallsV Tryz.prog 134 #[.agg (recC r vd vt vp).toArray] w0 fun v w' => v = .agg (nmC (fitP r.host) (fitP r.host).length).toArray ∧ St ⟨w0, V, V⟩ w' [] := by
 have hn := cM (n := (fitP r.host).length) (fitP_len r.host)
 have hs := St.start hV
 refine aT [_] Tryz.func134 Tryz.ntmps134 Tryz.results134 rfl rfl (dP (aJ (cR hs rfl rfl rfl (fun b1 w hb1 hbe1 hs => aJ (aX hs z_178 rfl (fun b2 w hb2 he2 hs => aH (dP (lp (aR fo_30_7 rfl) rfl (lp (aO rfl (aQ k_9 (hs.g 1 rfl) rfl)) rfl (aZ ok_59 rfl rfl (c_nameOf hs.isIn r.host hsz) rfl (fun v5 w HF => ?_)))))))))))
 obtain ⟨rfl, hc⟩ := HF
 replace hs := hs.frame hc
 refine lp (po_buildG [nmC (fitP r.host) (fitP r.host).length] st_178 rfl rfl rfl (by simp [hn]) (show _ = nmC (fitP r.host) (fitP r.host).length by simp)) rfl (aJ (dR 0 hs k_178 rfl rfl rfl hn (by simp) (flat_nmC _ _) rfl (fun w hs => aH (aV ⟨_, res1 ⟨_, rfl, aP k_178 (hs.g 0 rfl) hn⟩, ?_⟩))))
 exact ⟨rfl, (hs.drop hb2).drop hb1⟩
set_option maxHeartbeats 1000000 in
theorem p_mxOf (hV : V.In w0) (hsz : r.host.length ≤ 4294967296) (hsb : r.box.length ≤ 4294967296) : CallsV Tryz.prog 135 #[.agg (recC r vd vt vp).toArray] w0 fun v w' => v = .agg (.int .u16 (r.n1 % 65536 : Nat) :: nmC (fitP r.host) (fitP r.host).length : List Value).toArray ∧ St ⟨w0, V, V⟩ w' [] := by
 have hn := cM (n := (fitP r.host).length) (fitP_len r.host)
 have hnb := cM (n := (fitP r.box).length) (fitP_len r.box)
 have hs := St.start hV
 refine aT [_] Tryz.func135 Tryz.ntmps135 Tryz.results135 rfl rfl (dP (aJ (cR hs rfl rfl rfl (fun b1 w hb1 hbe1 hs => aJ (aX hs z_183 rfl (fun b2 w hb2 he2 hs => aH (aF (bV hs [1, 4] mixed (fun w hs => dI 0 rfl (fun w => aR fo_30_9 rfl) rfl rfl (dJ 1 rfl hs rfl (fun w hs => (aO rfl (aQ cB (hs.g 1 rfl) rfl))) rfl (dI 2 rfl (fun w => bY Tryz.underlying27 Tryz.underlying22 rfl u16mod) rfl rfl (dI 3 rfl (fun w => aR fo_30_7 rfl) rfl rfl (dJ 4 rfl hs rfl (fun w hs => (aO rfl (aQ k_9 (hs.g 1 rfl) rfl))) rfl (dL 5 rfl (cF (cD rfl rfl ok_59 (c_nameOf hs.isIn r.host hsz)) rfl (fun v8 w HF => ?_))))))))))))))))
 obtain ⟨rfl, hc⟩ := HF
 replace hs := hs.frame hc
 refine ⟨fun _ => hs, dI 6 rfl (fun w => (po_buildG [[.int .u16 (r.n1 % 65536 : Nat)], nmC (fitP r.host) (fitP r.host).length] st_183 rfl rfl rfl (by simp [hn, hnb]) (show _ = (.int .u16 (r.n1 % 65536 : Nat) :: nmC (fitP r.host) (fitP r.host).length : List Value) by simp))) rfl rfl (dL 7 rfl (dR 0 hs k_183 rfl rfl rfl (by simp [hn, hnb]) (by simp) (bX rfl (flat_nmC _ _)) rfl (fun w hs => ⟨fun h => absurd h (by decide +kernel), bS (by decide +kernel) (aV ⟨_, res1 ⟨_, rfl, aP k_183 (hs.g 0 rfl) (by simp [hn, hnb])⟩, ?_⟩)⟩)))⟩
 exact ⟨rfl, (hs.drop hb2).drop hb1⟩
set_option maxHeartbeats 1000000 in
theorem p_srvOf (hV : V.In w0) (hsz : r.host.length ≤ 4294967296) (hsb : r.box.length ≤ 4294967296) : CallsV Tryz.prog 138 #[.agg (recC r vd vt vp).toArray] w0 fun v w' => v = .agg (.int .u16 (r.n1 % 65536 : Nat) :: .int .u16 (r.n2 % 65536 : Nat) :: .int .u16 (r.n3 % 65536 : Nat) :: nmC (fitP r.host) (fitP r.host).length : List Value).toArray ∧ St ⟨w0, V, V⟩ w' [] := by
 have hn := cM (n := (fitP r.host).length) (fitP_len r.host)
 have hnb := cM (n := (fitP r.box).length) (fitP_len r.box)
 have hs := St.start hV
 refine aT [_] Tryz.func138 Tryz.ntmps138 Tryz.results138 rfl rfl (dP (aJ (cR hs rfl rfl rfl (fun b1 w hb1 hbe1 hs => aJ (aX hs z_199 rfl (fun b2 w hb2 he2 hs => aH (aF (bV hs [1, 4, 7, 10] mixed (fun w hs => dI 0 rfl (fun w => aR fo_30_9 rfl) rfl rfl (dJ 1 rfl hs rfl (fun w hs => (aO rfl (aQ cB (hs.g 1 rfl) rfl))) rfl (dI 2 rfl (fun w => bY Tryz.underlying27 Tryz.underlying22 rfl u16mod) rfl rfl (dI 3 rfl (fun w => aR fo_30_10 rfl) rfl rfl (dJ 4 rfl hs rfl (fun w hs => (aO rfl (aQ cB (hs.g 1 rfl) rfl))) rfl (dI 5 rfl (fun w => bY Tryz.underlying27 Tryz.underlying22 rfl u16mod) rfl rfl (dI 6 rfl (fun w => aR fo_30_11 rfl) rfl rfl ?_)))))))))))))))
 refine dJ 7 rfl hs rfl (fun w hs => (aO rfl (aQ cB (hs.g 1 rfl) rfl))) rfl (dI 8 rfl (fun w => bY Tryz.underlying27 Tryz.underlying22 rfl u16mod) rfl rfl (dI 9 rfl (fun w => aR fo_30_7 rfl) rfl rfl (dJ 10 rfl hs rfl (fun w hs => (aO rfl (aQ k_9 (hs.g 1 rfl) rfl))) rfl (dL 11 rfl (cF (cD rfl rfl ok_59 (c_nameOf hs.isIn r.host hsz)) rfl (fun v14 w HF => ?_))))))
 obtain ⟨rfl, hc⟩ := HF
 replace hs := hs.frame hc
 refine ⟨fun _ => hs, dI 12 rfl (fun w => (po_buildG [[.int .u16 (r.n1 % 65536 : Nat)], [.int .u16 (r.n2 % 65536 : Nat)], [.int .u16 (r.n3 % 65536 : Nat)], nmC (fitP r.host) (fitP r.host).length] st_199 rfl rfl rfl (by simp [hn, hnb]) (show _ = (.int .u16 (r.n1 % 65536 : Nat) :: .int .u16 (r.n2 % 65536 : Nat) :: .int .u16 (r.n3 % 65536 : Nat) :: nmC (fitP r.host) (fitP r.host).length : List Value) by simp))) rfl rfl (dL 13 rfl (dR 0 hs k_199 rfl rfl rfl (by simp [hn, hnb]) (by simp) (bX rfl (bX rfl (bX rfl (flat_nmC _ _)))) rfl (fun w hs => ⟨fun h => absurd h (by decide +kernel), bS (by decide +kernel) (aV ⟨_, res1 ⟨_, rfl, aP k_199 (hs.g 0 rfl) (by simp [hn, hnb])⟩, ?_⟩)⟩)))⟩
 exact ⟨rfl, (hs.drop hb2).drop hb1⟩
set_option maxHeartbeats 1000000 in
theorem p_soaOf (hV : V.In w0) (hsz : r.host.length ≤ 4294967296) (hsb : r.box.length ≤ 4294967296) : CallsV Tryz.prog 133 #[.agg (recC r vd vt vp).toArray] w0 fun v w' => v = .agg (nmC (fitP r.host) (fitP r.host).length ++ (nmC (fitP r.box) (fitP r.box).length ++ [.int .u32 r.n1, .int .u32 r.n2, .int .u32 r.n3, .int .u32 r.n4, .int .u32 r.n5]) : List Value).toArray ∧ St ⟨w0, V, V⟩ w' [] := by
 have hn := cM (n := (fitP r.host).length) (fitP_len r.host)
 have hnb := cM (n := (fitP r.box).length) (fitP_len r.box)
 have hs := St.start hV
 refine aT [_] Tryz.func133 Tryz.ntmps133 Tryz.results133 rfl rfl (dP (aJ (cR hs rfl rfl rfl (fun b1 w hb1 hbe1 hs => aJ (aX hs z_173 rfl (fun b2 w hb2 he2 hs => aH (aF (bV hs [1, 4, 7, 9, 11, 13, 15] mixed (fun w hs => dI 0 rfl (fun w => aR fo_30_7 rfl) rfl rfl (dJ 1 rfl hs rfl (fun w hs => (aO rfl (aQ k_9 (hs.g 1 rfl) rfl))) rfl (dI 3 rfl (fun w => aR fo_30_8 rfl) rfl rfl (dJ 4 rfl hs rfl (fun w hs => (aO rfl (aQ k_9 (hs.g 1 rfl) rfl))) rfl (dI 6 rfl (fun w => aR fo_30_9 rfl) rfl rfl (dJ 7 rfl hs rfl (fun w hs => (aO rfl (aQ cB (hs.g 1 rfl) rfl))) rfl (dI 8 rfl (fun w => aR fo_30_10 rfl) rfl rfl ?_)))))))))))))))
 refine dJ 9 rfl hs rfl (fun w hs => (aO rfl (aQ cB (hs.g 1 rfl) rfl))) rfl (dI 10 rfl (fun w => aR fo_30_11 rfl) rfl rfl (dJ 11 rfl hs rfl (fun w hs => (aO rfl (aQ cB (hs.g 1 rfl) rfl))) rfl (dI 12 rfl (fun w => aR fo_30_12 rfl) rfl rfl (dJ 13 rfl hs rfl (fun w hs => (aO rfl (aQ cB (hs.g 1 rfl) rfl))) rfl (dI 14 rfl (fun w => aR fo_30_13 rfl) rfl rfl (dJ 15 rfl hs rfl (fun w hs => (aO rfl (aQ cB (hs.g 1 rfl) rfl))) rfl (dL 2 rfl (cF (cD rfl rfl ok_59 (c_nameOf hs.isIn r.host hsz)) rfl (fun v5 w HF => ?_)))))))))
 obtain ⟨rfl, hc⟩ := HF
 replace hs := hs.frame hc
 refine ⟨fun _ => hs, dL 5 rfl (cF (cD rfl rfl ok_59 (c_nameOf hs.isIn r.box hsb)) rfl (fun v8 w HF => ?_))⟩
 obtain ⟨rfl, hc⟩ := HF
 replace hs := hs.frame hc
 refine ⟨fun _ => hs, dI 16 rfl (fun w => (po_buildG [nmC (fitP r.host) (fitP r.host).length, nmC (fitP r.box) (fitP r.box).length, [.int .u32 r.n1], [.int .u32 r.n2], [.int .u32 r.n3], [.int .u32 r.n4], [.int .u32 r.n5]] st_173 rfl rfl rfl (by simp [hn, hnb]) (show _ = (nmC (fitP r.host) (fitP r.host).length ++ (nmC (fitP r.box) (fitP r.box).length ++ [.int .u32 r.n1, .int .u32 r.n2, .int .u32 r.n3, .int .u32 r.n4, .int .u32 r.n5]) : List Value) by simp))) rfl rfl (dL 17 rfl (dR 0 hs k_173 rfl rfl rfl (by simp [hn, hnb]) (by simp) (flat_app (flat_nmC _ _) (flat_app (flat_nmC _ _) (aG rfl))) rfl (fun w hs => ⟨fun h => absurd h (by decide +kernel), bS (by decide +kernel) (aV ⟨_, res1 ⟨_, rfl, aP k_173 (hs.g 0 rfl) (by simp [hn, hnb])⟩, ?_⟩)⟩)))⟩
 exact ⟨rfl, (hs.drop hb2).drop hb1⟩
set_option maxHeartbeats 1000000 in
theorem p_aOf (hV : V.In w0) (hD : RB V vd r.data) : CallsV Tryz.prog 130 #[.agg (recC r vd vt vp).toArray] w0 fun v w' => v = .agg ((padTo r.data 4).map byteVal).toArray ∧ St ⟨w0, V, V⟩ w' [] := by
 have hs := St.start hV
 have hpl := padTo_len r.data 4
 have hz : ∀ {w b2 b1 b3 : Nat} , True := fun {_ _ _ _} => trivial
 refine aT [_] Tryz.func130 Tryz.ntmps130 Tryz.results130 rfl rfl (dP (aJ (cR hs rfl rfl rfl (fun b1 w hb1 hbe1 hs => aJ (aX hs z_157 rfl (fun b2 w hb2 he2 hs => aH (dP (lp (bM (vs := []) (ps := []) rfl bz_157) rfl (aJ (aX hs z_157 rfl (fun b3 w hb3 he3 hs => aJ (dR 0 hs k_157 rfl rfl rfl (by rfl) (by rfl) (aG (by decide +kernel)) rfl (fun w hs => ?_)))))))))))))
 replace hs : St ⟨w0, V, V⟩ w [(b3, .cells (rep 4 (.int .u8 0)).toArray 157 (0, 0)), (b2, .cells (rep 4 (.int .u8 0)).toArray 157 (0, 0)), (b1, .cells (recC r vd vt vp).toArray 30 (0, 0))] := hs
 refine aH (aF (bV hs [3] mixed (fun w hs => dI 0 rfl (fun w => aR fo_157_0 rfl) rfl rfl (dI 1 rfl (fun w => (po_slice_arrA ar_155 (by decide) rfl)) rfl rfl (dI 2 rfl (fun w => aR fo_30_6 rfl) rfl rfl (dJ 3 rfl hs rfl (fun w hs => (aO rfl (aQ k_23 (hs.g 2 rfl) rfl))) rfl (dL 4 rfl (o_copy (kk := 0) (k := Nat.min r.data.length 4) (sl := r.data.length) (news := (r.data.take (Nat.min r.data.length 4)).map byteVal) es_23 hs rfl rfl hD.len rfl (RB.fst hD hs.isIn (Nat.min_le_left _ _)) (dH _) rfl (by have := Nat.min_le_right r.data.length 4; simp; omega) rfl rfl (fun w hs => ?_)))))))))
 rw [padTo_cells] at hs
 refine ⟨fun h => absurd h (by decide +kernel), bS (by decide +kernel) (dP (lp (aO rfl (aP k_157 (hs.g 0 rfl) (by simp [hpl]))) rfl (aJ (dR 1 hs k_157 rfl rfl rfl (by simp [hpl]) (by simp) (dH _) rfl (fun w hs => aH (aV ⟨_, res1 ⟨_, rfl, aP k_157 (hs.g 1 rfl) (by simp [hpl])⟩, ?_⟩))))))⟩
 exact ⟨rfl, ((hs.drop hb3).drop hb2).drop hb1⟩
set_option maxHeartbeats 1000000 in
theorem p_aaaaOf (hV : V.In w0) (hD : RB V vd r.data) : CallsV Tryz.prog 137 #[.agg (recC r vd vt vp).toArray] w0 fun v w' => v = .agg ((padTo r.data 16).map byteVal).toArray ∧ St ⟨w0, V, V⟩ w' [] := by
 have hs := St.start hV
 have hpl := padTo_len r.data 16
 have hz : ∀ {w b2 b1 b3 : Nat} , True := fun {_ _ _ _} => trivial
 refine aT [_] Tryz.func137 Tryz.ntmps137 Tryz.results137 rfl rfl (dP (aJ (cR hs rfl rfl rfl (fun b1 w hb1 hbe1 hs => aJ (aX hs z_194 rfl (fun b2 w hb2 he2 hs => aH (dP (lp (bM (vs := []) (ps := []) rfl bz_194) rfl (aJ (aX hs z_194 rfl (fun b3 w hb3 he3 hs => aJ (dR 0 hs k_194 rfl rfl rfl (by rfl) (by rfl) (aG (by decide +kernel)) rfl (fun w hs => ?_)))))))))))))
 replace hs : St ⟨w0, V, V⟩ w [(b3, .cells (rep 16 (.int .u8 0)).toArray 194 (0, 0)), (b2, .cells (rep 16 (.int .u8 0)).toArray 194 (0, 0)), (b1, .cells (recC r vd vt vp).toArray 30 (0, 0))] := hs
 refine aH (aF (bV hs [3] mixed (fun w hs => dI 0 rfl (fun w => aR fo_194_0 rfl) rfl rfl (dI 1 rfl (fun w => (po_slice_arrA ar_192 (by decide) rfl)) rfl rfl (dI 2 rfl (fun w => aR fo_30_6 rfl) rfl rfl (dJ 3 rfl hs rfl (fun w hs => (aO rfl (aQ k_23 (hs.g 2 rfl) rfl))) rfl (dL 4 rfl (o_copy (kk := 0) (k := Nat.min r.data.length 16) (sl := r.data.length) (news := (r.data.take (Nat.min r.data.length 16)).map byteVal) es_23 hs rfl rfl hD.len rfl (RB.fst hD hs.isIn (Nat.min_le_left _ _)) (dH _) rfl (by have := Nat.min_le_right r.data.length 16; simp; omega) rfl rfl (fun w hs => ?_)))))))))
 rw [padTo_cells] at hs
 refine ⟨fun h => absurd h (by decide +kernel), bS (by decide +kernel) (dP (lp (aO rfl (aP k_194 (hs.g 0 rfl) (by simp [hpl]))) rfl (aJ (dR 1 hs k_194 rfl rfl rfl (by simp [hpl]) (by simp) (dH _) rfl (fun w hs => aH (aV ⟨_, res1 ⟨_, rfl, aP k_194 (hs.g 1 rfl) (by simp [hpl])⟩, ?_⟩))))))⟩
 exact ⟨rfl, ((hs.drop hb3).drop hb2).drop hb1⟩
end
end Go.Proofs.YtgpfjlfkaoffeaaGreatDoor
namespace Go.Proofs.YtgpfjlfkaoffeaaGreatDoor
open Go
section
variable {A : Nat → Addr} {V : Vw} {w0 : World} {r : PRec} {vd vt vp : Value}
set_option maxHeartbeats 2000000 in
theorem p_optionsOf (hV : V.In w0) {pv : Value} {ps : List PPair} (hP : RPairs V pv ps) (hn : ps.length ≤ 4294967296) (hd : ∀ p ∈ ps, p.data.length ≤ 4294967296) :
  CallsV Tryz.prog 185 #[pv] w0 fun v w' => ∃ V' : Vw, St ⟨w0, V, V'⟩ w' [] ∧ RPairs V' v ps := by
 obtain ⟨xs, hS, hR⟩ := hP
 obtain ⟨a, cap, rfl, hcap, ha⟩ := hS.form
 have hs := St.start hV
 refine aT [_] Tryz.func185 Tryz.ntmps185 Tryz.results185 rfl rfl (dP (dN rfl rfl (aH (dP (aJ (o_bslice0 es_203 hs rfl (fun b6 w hb6 he6 hs => ?_)))))))
 have hsl : Sl 304 2 ⟨w0, V, V⟩ w [] (.slice (some ⟨b6, 0, none⟩) 0 0) 0 [] := Sl.empty hs hb6
 refine dN rfl rfl (aH (aF (dP (dM rfl rfl (lp (bC Tryz.underlying26 rfl) rfl (dM rfl rfl (aH (bQ (dC (fun g : Nat × List Value × Value × Vw => upd (upd (upd (upd emp 9 (.int .i64 g.1)) 8 (.int .i64 ps.length)) 7 (.slice a ps.length cap)) 3 g.2.2.1) (fun g w' => Sl 304 2 ⟨w0, V, g.2.2.2⟩ w' [] g.2.2.1 g.1 g.2.1 ∧ Rows 2 (RPair g.2.2.2) (ps.take g.1) g.2.1 ∧ g.1 ≤ ps.length) (fun g => ps.length - g.1) (0, [], .slice (some ⟨b6, 0, none⟩) 0 0, V) (aL rfl (aL rfl (aL rfl (aL rfl (bG _))))) ⟨hsl, rfl, Nat.zero_le _⟩ ?_)))))))))
 clear hsl hs
 rintro ⟨j, ys, sv, Vc⟩ w ⟨hsl, hrows, hj⟩
 simp only at hsl hrows hj ⊢
 have hle := hsl.st.view
 refine dP (lp (cY rfl rfl) rfl (aH (aF (bH rfl (fun hc0 => ?_) (fun hc0 => ?_)))))
 obtain ⟨b, p, rfl, hc⟩ := ha (by omega)
 have hjl : j < ps.length := by omega
 obtain ⟨c, ⟨vd, rfl, hRB⟩, hcl, hct⟩ := hR.at (List.getElem?_eq_getElem hjl)
 have hdl := hd _ (List.getElem_mem hjl)
 obtain ⟨X, hX, hs⟩ := hsl.open
 refine aW (aF (bQ (dP (lp (po_iaN j (p + j * 2) es_26 rfl rfl rfl hjl rfl) rfl ?_))))
 refine lp (aO rfl (ld_cells (l := [.int .u16 ps[j].key, vd]) k_25 rfl (fun i u hu => by
  rw [Nat.add_assoc]
  exact Vw.cell_in hs.isIn (Vw.cell_le hle (hc _ _ (cell_at hct hu)))))) rfl ?_
 refine aJ (aX hs z_25 rfl (fun b5 w hb5 he5 hs => aJ (dR 0 hs k_25 rfl rfl rfl rfl rfl (bX rfl (bX hRB.oneCell flat_nil)) rfl (fun w hs => aH (e_draw (fun w2 => w2.heap[b5]? = some (.cells [Value.int .u16 ps[j].key, vd].toArray 25 (0, 0))) [2, 5] mixed (fun w hw => ?_))))))
 replace hs := hw.st hs
 refine dI 0 rfl (fun w => aC rfl) rfl rfl (dI 1 rfl (fun w => aR fo_25_0 rfl) rfl rfl (dJ 2 rfl (hs.g 0 rfl) rfl (fun w hf => (aO rfl (aQ k_22 hf rfl))) rfl (dI 4 rfl (fun w => aR fo_25_1 rfl) rfl rfl (dJ 5 rfl (hs.g 0 rfl) rfl (fun w hf => (aO rfl (aQ k_23 hf rfl))) rfl (dL 3 rfl (o_bslice0 es_23 hs rfl (fun b16 w hb16 he16 hs => ⟨fun _ => hs.g 1 rfl, dL 6 rfl (o_append (k := ps[j].data.length) (news := ps[j].data.map byteVal) el_23 (.inr ⟨_, Tryz.underlying23⟩) (Sl.empty hs hb16) rfl rfl ((hRB.mono hle).src hs.isIn) (dH _) (by omega) (by omega) rfl (fun v19 w hs => ⟨fun _ => hs.st.get (k := 0) rfl, ?_⟩))⟩)))))))
 obtain ⟨V', hle', hsv, hs⟩ := hs.give
 have hRB' : RB V' v19 ps[j].data := by unfold RB; simpa using hsv
 refine dI 7 rfl (fun w => (bL rfl (by simp only [List.all_cons, List.all_nil, hRB'.oneCell]; rfl) (bu_304_0_1 _ _))) rfl rfl (dL 8 rfl (o_bslice (vls := [[.int .u16 ps[j].key, v19]]) el_203 hs rfl rfl rfl rfl (by simp) (by decide) (by decide) rfl (fun b21 w hb21 he21 hs => ⟨fun _ => hs.g 1 rfl, dL 9 rfl (o_append (k := 1) (news := [.int .u16 ps[j].key, v19]) el_203 (.inr ⟨_, Tryz.underlying203⟩) (SlX.close (L := [_, _]) hX hs) rfl rfl (src_own (k := 0) hs rfl rfl) (bX rfl (bX hRB'.oneCell flat_nil)) (by omega) (by omega) rfl (fun v22 w hs => ⟨fun _ => hs.st.get (k := 1) rfl, ?_⟩))⟩)))
 replace hs := (hs.drop hb21).drop hb5
 refine dI 10 rfl (fun w => aD rfl) rfl rfl (bS (by decide +kernel) (aB (lp (bN rfl rfl (i64c (c := j + 1) (by omega) (by omega))) rfl (dM rfl rfl (aH ?_)))))
 exact ⟨(j + 1, _, v22, V'), aL rfl (aL rfl (aL rfl (aL rfl (bG _)))), ⟨hs, by
  show Rows 2 (RPair V') (ps.take (j + 1)) _
  rw [List.take_succ, List.getElem?_eq_getElem hjl]
  exact Rows.snoc (hrows.mono fun _ _ h => h.mono hle') ⟨v19, rfl, hRB'⟩ rfl, by simp only; omega⟩, by simp only; omega⟩
 refine e_exit (aF ?_)
 have hjn : j = ps.length := by omega
 subst hjn
 rw [List.take_length] at hrows
 obtain ⟨V', hle', hsv, hs⟩ := hsl.give
 refine aB (dM rfl rfl (dN rfl rfl (aH (aV ⟨_, res1 rfl, ?_⟩))))
 exact ⟨V', hs, _, hsv, hrows.mono fun _ _ h => h.mono hle'⟩
set_option maxHeartbeats 2000000 in
theorem p_paramsOf (hV : V.In w0) {pv : Value} {ps : List PPair} (hP : RPairs V pv ps) (hn : ps.length ≤ 4294967296) (hd : ∀ p ∈ ps, p.data.length ≤ 4294967296) :
  CallsV Tryz.prog 186 #[pv] w0 fun v w' => ∃ V' : Vw, St ⟨w0, V, V'⟩ w' [] ∧ RPairs V' v ps := by
 obtain ⟨xs, hS, hR⟩ := hP
 obtain ⟨a, cap, rfl, hcap, ha⟩ := hS.form
 have hs := St.start hV
 refine aT [_] Tryz.func186 Tryz.ntmps186 Tryz.results186 rfl rfl (dP (dN rfl rfl (aH (dP (aJ (o_bslice0 es_209 hs rfl (fun b6 w hb6 he6 hs => ?_)))))))
 have hsl : Sl 345 2 ⟨w0, V, V⟩ w [] (.slice (some ⟨b6, 0, none⟩) 0 0) 0 [] := Sl.empty hs hb6
 refine dN rfl rfl (aH (aF (dP (dM rfl rfl (lp (bC Tryz.underlying26 rfl) rfl (dM rfl rfl (aH (bQ (dC (fun g : Nat × List Value × Value × Vw => upd (upd (upd (upd emp 9 (.int .i64 g.1)) 8 (.int .i64 ps.length)) 7 (.slice a ps.length cap)) 3 g.2.2.1) (fun g w' => Sl 345 2 ⟨w0, V, g.2.2.2⟩ w' [] g.2.2.1 g.1 g.2.1 ∧ Rows 2 (RPair g.2.2.2) (ps.take g.1) g.2.1 ∧ g.1 ≤ ps.length) (fun g => ps.length - g.1) (0, [], .slice (some ⟨b6, 0, none⟩) 0 0, V) (aL rfl (aL rfl (aL rfl (aL rfl (bG _))))) ⟨hsl, rfl, Nat.zero_le _⟩ ?_)))))))))
 clear hsl hs
 rintro ⟨j, ys, sv, Vc⟩ w ⟨hsl, hrows, hj⟩
 simp only at hsl hrows hj ⊢
 have hle := hsl.st.view
 refine dP (lp (cY rfl rfl) rfl (aH (aF (bH rfl (fun hc0 => ?_) (fun hc0 => ?_)))))
 obtain ⟨b, p, rfl, hc⟩ := ha (by omega)
 have hjl : j < ps.length := by omega
 obtain ⟨c, ⟨vd, rfl, hRB⟩, hcl, hct⟩ := hR.at (List.getElem?_eq_getElem hjl)
 have hdl := hd _ (List.getElem_mem hjl)
 obtain ⟨X, hX, hs⟩ := hsl.open
 refine aW (aF (bQ (dP (lp (po_iaN j (p + j * 2) es_26 rfl rfl rfl hjl rfl) rfl ?_))))
 refine lp (aO rfl (ld_cells (l := [.int .u16 ps[j].key, vd]) k_25 rfl (fun i u hu => by
  rw [Nat.add_assoc]
  exact Vw.cell_in hs.isIn (Vw.cell_le hle (hc _ _ (cell_at hct hu)))))) rfl ?_
 refine aJ (aX hs z_25 rfl (fun b5 w hb5 he5 hs => aJ (dR 0 hs k_25 rfl rfl rfl rfl rfl (bX rfl (bX hRB.oneCell flat_nil)) rfl (fun w hs => aH (e_draw (fun w2 => w2.heap[b5]? = some (.cells [Value.int .u16 ps[j].key, vd].toArray 25 (0, 0))) [2, 5] mixed (fun w hw => ?_))))))
 replace hs := hw.st hs
 refine dI 0 rfl (fun w => aC rfl) rfl rfl (dI 1 rfl (fun w => aR fo_25_0 rfl) rfl rfl (dJ 2 rfl (hs.g 0 rfl) rfl (fun w hf => (aO rfl (aQ k_22 hf rfl))) rfl (dI 4 rfl (fun w => aR fo_25_1 rfl) rfl rfl (dJ 5 rfl (hs.g 0 rfl) rfl (fun w hf => (aO rfl (aQ k_23 hf rfl))) rfl (dL 3 rfl (o_bslice0 es_23 hs rfl (fun b16 w hb16 he16 hs => ⟨fun _ => hs.g 1 rfl, dL 6 rfl (o_append (k := ps[j].data.length) (news := ps[j].data.map byteVal) el_23 (.inr ⟨_, Tryz.underlying23⟩) (Sl.empty hs hb16) rfl rfl ((hRB.mono hle).src hs.isIn) (dH _) (by omega) (by omega) rfl (fun v19 w hs => ⟨fun _ => hs.st.get (k := 0) rfl, ?_⟩))⟩)))))))
 obtain ⟨V', hle', hsv, hs⟩ := hs.give
 have hRB' : RB V' v19 ps[j].data := by unfold RB; simpa using hsv
 refine dI 7 rfl (fun w => (bL rfl (by simp only [List.all_cons, List.all_nil, hRB'.oneCell]; rfl) (bu_345_0_1 _ _))) rfl rfl (dL 8 rfl (o_bslice (vls := [[.int .u16 ps[j].key, v19]]) el_209 hs rfl rfl rfl rfl (by simp) (by decide) (by decide) rfl (fun b21 w hb21 he21 hs => ⟨fun _ => hs.g 1 rfl, dL 9 rfl (o_append (k := 1) (news := [.int .u16 ps[j].key, v19]) el_209 (.inr ⟨_, Tryz.underlying209⟩) (SlX.close (L := [_, _]) hX hs) rfl rfl (src_own (k := 0) hs rfl rfl) (bX rfl (bX hRB'.oneCell flat_nil)) (by omega) (by omega) rfl (fun v22 w hs => ⟨fun _ => hs.st.get (k := 1) rfl, ?_⟩))⟩)))
 replace hs := (hs.drop hb21).drop hb5
 refine dI 10 rfl (fun w => aD rfl) rfl rfl (bS (by decide +kernel) (aB (lp (bN rfl rfl (i64c (c := j + 1) (by omega) (by omega))) rfl (dM rfl rfl (aH ?_)))))
 exact ⟨(j + 1, _, v22, V'), aL rfl (aL rfl (aL rfl (aL rfl (bG _)))), ⟨hs, by
  show Rows 2 (RPair V') (ps.take (j + 1)) _
  rw [List.take_succ, List.getElem?_eq_getElem hjl]
  exact Rows.snoc (hrows.mono fun _ _ h => h.mono hle') ⟨v19, rfl, hRB'⟩ rfl, by simp only; omega⟩, by simp only; omega⟩
 refine e_exit (aF ?_)
 have hjn : j = ps.length := by omega
 subst hjn
 rw [List.take_length] at hrows
 obtain ⟨V', hle', hsv, hs⟩ := hsl.give
 refine aB (dM rfl rfl (dN rfl rfl (aH (aV ⟨_, res1 rfl, ?_⟩))))
 exact ⟨V', hs, _, hsv, hrows.mono fun _ _ h => h.mono hle'⟩
set_option maxHeartbeats 1000000 in
theorem p_unknownOf (hV : V.In w0) (hD : RB V vd r.data) (hdl : r.data.length ≤ 4294967296) : CallsV Tryz.prog 142 #[.agg (recC r vd vt vp).toArray] w0 fun v w' => ∃ (V' : Vw) (dv : Value), v = .agg [.int .u16 r.type, dv].toArray ∧ St ⟨w0, V, V'⟩ w' [] ∧ RB V' dv r.data := by
 have hs := St.start hV
 refine aT [_] Tryz.func142 Tryz.ntmps142 Tryz.results142 rfl rfl (dP (aJ (cR hs rfl rfl rfl (fun b1 w hb1 hbe1 hs => aJ (aX hs z_221 rfl (fun b2 w hb2 he2 hs => aH (aF (e_draw (fun w2 => w2.heap[b1]? = some (.cells (recC r vd vt vp).toArray 30 (0, 0))) [1, 4] mixed (fun w hw => ?_)))))))))
 replace hs := hw.st hs
 refine dI 0 rfl (fun w => aR fo_30_1 rfl) rfl rfl (dJ 1 rfl (hs.g 1 rfl) rfl (fun w hf => (aO rfl (aQ k_22 hf rfl))) rfl (dI 3 rfl (fun w => aR fo_30_6 rfl) rfl rfl (dJ 4 rfl (hs.g 1 rfl) rfl (fun w hf => (aO rfl (aQ k_23 hf rfl))) rfl (dL 2 rfl (o_bslice0 es_23 hs rfl (fun b5 w hb5 he5 hs => ⟨fun _ => hs.g 2 rfl, dL 5 rfl (o_append (k := r.data.length) (news := r.data.map byteVal) el_23 (.inr ⟨_, Tryz.underlying23⟩) (Sl.empty hs hb5) rfl rfl (hD.src hs.isIn) (dH _) (by omega) (by omega) rfl (fun v8 w hs => ⟨fun _ => hs.st.get (k := 1) rfl, ?_⟩))⟩))))))
 obtain ⟨V', hle', hsv, hs⟩ := hs.give
 have hRB' : RB V' v8 r.data := by unfold RB; simpa using hsv
 refine dI 6 rfl (fun w => (bL rfl (by simp only [List.all_cons, List.all_nil, hRB'.oneCell]; rfl) (bu_221_0_1 _ _))) rfl rfl (dL 7 rfl (dR 0 hs k_221 rfl rfl rfl rfl rfl (bX rfl (bX hRB'.oneCell flat_nil)) rfl (fun w hs => ⟨fun h => absurd h (by decide +kernel), bS (by decide +kernel) (aV ⟨_, res1 ⟨_, rfl, aP k_221 (hs.g 0 rfl) rfl⟩, ?_⟩)⟩)))
 exact ⟨V', _, rfl, (hs.drop hb2).drop hb1, hRB'⟩
set_option maxHeartbeats 1000000 in
theorem p_txtOf (hV : V.In w0) (hT : RTexts V vt r.texts) (htl : r.texts.length ≤ 4294967296) : CallsV Tryz.prog 136 #[.agg (recC r vd vt vp).toArray] w0 fun v w' => ∃ (V' : Vw) (tv : Value), v = .agg [tv].toArray ∧ St ⟨w0, V, V'⟩ w' [] ∧ RTexts V' tv r.texts := by
 have hs := St.start hV
 refine aT [_] Tryz.func136 Tryz.ntmps136 Tryz.results136 rfl rfl (dP (aJ (cR hs rfl rfl rfl (fun b1 w hb1 hbe1 hs => aJ (aX hs z_188 rfl (fun b2 w hb2 he2 hs => aH (dP (aJ (o_bslice0 es_28 hs rfl (fun b3 w hb3 he3 hs => lp (aR fo_30_14 rfl) rfl (lp (aO rfl (aQ k_28 (hs.g 2 rfl) rfl)) rfl (aJ (o_append (k := r.texts.length) (news := r.texts.map strV) el_28 (.inr ⟨_, Tryz.underlying28⟩) (Sl.empty hs hb3) rfl rfl (SlV.src hT hs.isIn) (fun u hu => by obtain ⟨x, _, rfl⟩ := List.mem_map.1 hu; rfl) (by omega) (by omega) rfl (fun v6 w hs => ?_))))))))))))))
 obtain ⟨V', hle, hsv, hs⟩ := hs.give
 have hRT : RTexts V' v6 r.texts := by unfold RTexts; simpa using hsv
 refine lp (bL rfl (by simp only [List.all_cons, List.all_nil, hRT.oneCell]; rfl) (bu_188_0 _)) rfl (aJ (dR 0 hs k_188 rfl rfl rfl rfl rfl (bX hRT.oneCell flat_nil) rfl (fun w hs => aH (aV ⟨_, res1 ⟨_, rfl, aP k_188 (hs.g 0 rfl) rfl⟩, ?_⟩))))
 exact ⟨V', _, rfl, (hs.drop hb2).drop hb1, hRT⟩
set_option maxHeartbeats 1000000 in
theorem p_optOf (hV : V.In w0) (hP : RPairs V vp r.pairs) (hpl : r.pairs.length ≤ 4294967296) (hpd : ∀ p ∈ r.pairs, p.data.length ≤ 4294967296) : CallsV Tryz.prog 139 #[.agg (recC r vd vt vp).toArray] w0 fun v w' => ∃ (V' : Vw) (pv : Value), v = .agg [pv].toArray ∧ St ⟨w0, V, V'⟩ w' [] ∧ RPairs V' pv r.pairs := by
 have hs := St.start hV
 refine aT [_] Tryz.func139 Tryz.ntmps139 Tryz.results139 rfl rfl (dP (aJ (cR hs rfl rfl rfl (fun b1 w hb1 hbe1 hs => aJ (aX hs z_205 rfl (fun b2 w hb2 he2 hs => aH (dP (lp (aR fo_30_15 rfl) rfl (lp (aO rfl (aQ k_26 (hs.g 1 rfl) rfl)) rfl (aZ ok_185 rfl rfl (p_optionsOf hs.isIn hP hpl hpd) rfl (fun v5 w HF => ?_)))))))))))
 obtain ⟨V', hc, hRP⟩ := HF
 replace hs := hs.frame hc
 refine lp (bL rfl (by simp only [List.all_cons, List.all_nil, hRP.oneCell]; rfl) (bu_205_0 _)) rfl (aJ (dR 0 hs k_205 rfl rfl rfl rfl rfl (bX hRP.oneCell flat_nil) rfl (fun w hs => aH (aV ⟨_, res1 ⟨_, rfl, aP k_205 (hs.g 0 rfl) rfl⟩, ?_⟩))))
 exact ⟨V', _, rfl, (hs.drop hb2).drop hb1, hRP⟩
def svcC (r : PRec) (pv : Value) : List Value := .int .u16 (r.n1 % 65536 : Nat) :: (nmC (fitP r.host) (fitP r.host).length ++ [pv])
set_option maxHeartbeats 1000000 in
theorem p_svcbOf (hV : V.In w0) (hsz : r.host.length ≤ 4294967296) (hP : RPairs V vp r.pairs) (hpl : r.pairs.length ≤ 4294967296) (hpd : ∀ p ∈ r.pairs, p.data.length ≤ 4294967296) : CallsV Tryz.prog 140 #[.agg (recC r vd vt vp).toArray] w0 fun v w' => ∃ (V' : Vw) (pv : Value), v = .agg (svcC r pv).toArray ∧ St ⟨w0, V, V'⟩ w' [] ∧ RPairs V' pv r.pairs := by
 have hn := cM (n := (fitP r.host).length) (fitP_len r.host)
 have hs := St.start hV
 refine aT [_] Tryz.func140 Tryz.ntmps140 Tryz.results140 rfl rfl (dP (aJ (cR hs rfl rfl rfl (fun b1 w hb1 hbe1 hs => aJ (aX hs z_211 rfl (fun b2 w hb2 he2 hs => aH (aF (e_draw (fun w2 => w2.heap[b1]? = some (.cells (recC r vd vt vp).toArray 30 (0, 0))) [1, 4, 7] mixed (fun w hw => ?_)))))))))
 replace hs := hw.st hs
 refine dI 0 rfl (fun w => aR fo_30_9 rfl) rfl rfl (dJ 1 rfl (hs.g 1 rfl) rfl (fun w hf => (aO rfl (aQ cB hf rfl))) rfl (dI 2 rfl (fun w => bY Tryz.underlying27 Tryz.underlying22 rfl u16mod) rfl rfl (dI 3 rfl (fun w => aR fo_30_7 rfl) rfl rfl (dJ 4 rfl (hs.g 1 rfl) rfl (fun w hf => (aO rfl (aQ k_9 hf rfl))) rfl (dI 6 rfl (fun w => aR fo_30_15 rfl) rfl rfl (dJ 7 rfl (hs.g 1 rfl) rfl (fun w hf => (aO rfl (aQ k_26 hf rfl))) rfl (dL 5 rfl (cF (cD rfl rfl ok_59 (c_nameOf hs.isIn r.host hsz)) rfl (fun v8 w HF => ?_)))))))))
 obtain ⟨rfl, hc⟩ := HF
 replace hs := hs.frame hc
 refine ⟨fun _ => hs.g 1 rfl, dL 8 rfl (cF (cD rfl rfl ok_186 (p_paramsOf hs.isIn hP hpl hpd)) rfl (fun v11 w HF => ?_))⟩
 obtain ⟨V', hc, hRP⟩ := HF
 replace hs := hs.frame hc
 refine ⟨fun _ => hs.g 1 rfl, dI 9 rfl (fun w => (po_buildG [[.int .u16 (r.n1 % 65536 : Nat)], nmC (fitP r.host) (fitP r.host).length, [v11]] st_211 rfl rfl (by simp only [List.map_cons, List.map_nil, cells_one hRP.oneCell]; rfl) (by simp [hn]) (show _ = svcC r v11 by simp [svcC]))) rfl rfl (dL 10 rfl (dR 0 hs k_211 rfl rfl rfl (by simp [svcC, hn]) (by simp) (bX rfl (flat_app (flat_nmC _ _) (bX hRP.oneCell flat_nil))) rfl (fun w hs => ⟨fun h => absurd h (by decide +kernel), bS (by decide +kernel) (aV ⟨_, res1 ⟨_, rfl, aP k_211 (hs.g 0 rfl) (by simp [svcC, hn])⟩, ?_⟩)⟩)))⟩
 exact ⟨V', _, rfl, (hs.drop hb2).drop hb1, hRP⟩
set_option maxHeartbeats 1000000 in
theorem p_httpsOf (hV : V.In w0) (hsz : r.host.length ≤ 4294967296) (hP : RPairs V vp r.pairs) (hpl : r.pairs.length ≤ 4294967296) (hpd : ∀ p ∈ r.pairs, p.data.length ≤ 4294967296) : CallsV Tryz.prog 141 #[.agg (recC r vd vt vp).toArray] w0 fun v w' => ∃ (V' : Vw) (pv : Value), v = .agg (svcC r pv).toArray ∧ St ⟨w0, V, V'⟩ w' [] ∧ RPairs V' pv r.pairs := by
 have hn := cM (n := (fitP r.host).length) (fitP_len r.host)
 have hs := St.start hV
 refine aT [_] Tryz.func141 Tryz.ntmps141 Tryz.results141 rfl rfl (dP (aJ (cR hs rfl rfl rfl (fun b1 w hb1 hbe1 hs => aJ (aX hs z_216 rfl (fun b2 w hb2 he2 hs => aH (dP (lp (aO rfl (aP k_30 (hs.g 1 rfl) rfl)) rfl (aZ ok_140 rfl rfl (p_svcbOf hs.isIn hsz hP hpl hpd) rfl (fun v4 w HF => ?_))))))))))
 obtain ⟨V', pv, rfl, hc, hRP⟩ := HF
 replace hs := hs.frame hc
 refine lp (po_buildG [svcC r pv] st_216 rfl rfl rfl (by simp [svcC, hn]) (show _ = svcC r pv by simp)) rfl (aJ (dR 0 hs k_216 rfl rfl rfl (by simp [svcC, hn]) (by simp) (bX rfl (flat_app (flat_nmC _ _) (bX hRP.oneCell flat_nil))) rfl (fun w hs => aH (aV ⟨_, res1 ⟨_, rfl, aP k_216 (hs.g 0 rfl) (by simp [svcC, hn])⟩, ?_⟩))))
 exact ⟨V', _, rfl, (hs.drop hb2).drop hb1, hRP⟩
end
end Go.Proofs.YtgpfjlfkaoffeaaGreatDoor

/- Packing: texts. Packing: bodies through their interface values. Packing: a resource. -/
import Derived.Test.YtgpfjlfkaoffeaaGreatDoorP23
import Derived.Test.YtgpfjlfkaoffeaaGreatDoorP09
set_option linter.all false
namespace Go.Proofs.YtgpfjlfkaoffeaaGreatDoor
open Go
theorem textsP_succ {ts : List (List UInt8)} {j : Nat} {s : List UInt8} (h : ts[j]? = some s) : textsP (ts.take (j + 1)) = textsP (ts.take j) ++ (UInt8.ofNat s.length :: s) := by
 unfold textsP
 rw [List.take_add_one, h]
 simp
theorem textsP_take (ts : List (List UInt8)) (j : Nat) : (textsP (ts.take j)).length ≤ (textsP ts).length := by
 have h : textsP ts = textsP (ts.take j) ++ textsP (ts.drop j) := by
  unfold textsP
  rw [← List.flatten_append, ← List.map_append, List.take_append_drop]
 rw [h, List.length_append]; omega
theorem textsP_len (ts : List (List UInt8)) : ts.length ≤ (textsP ts).length := by
 induction ts with
 | nil => simp [textsP]
 | cons p l ih =>
  unfold textsP at ih ⊢
  simp only [List.map_cons, List.flatten_cons, List.length_append, List.length_cons]
  omega
section
variable {A : Nat → Addr} {V V0 : Vw} {w w00 : World} {L : List (Nat × Obj)} {msg : Value} {bm bb p0 : Nat} {pre out s : List UInt8} {t : List (List UInt8 × Nat)} {ts : List (List UInt8)}
theorem p_packText (hs : Sl 5 1 ⟨w00, V0, V⟩ w L msg (pre.length + out.length) ((pre ++ out).map byteVal)) (hm : pre.length + out.length ≤ 549755813888) (h255 : s.length ≤ 255) :
  CallsV Tryz.prog 245 #[msg, strV s] w fun v w' => ∃ mv, v = .tuple #[mv, .nilIface] ∧ Sl 5 1 ⟨w00, V0, V⟩ w' L mv (pre.length + (out ++ (UInt8.ofNat s.length :: s)).length) ((pre ++ (out ++ (UInt8.ofNat s.length :: s))).map byteVal) := by
 have hsz := ofBytes_size s
 refine aT [_, _] Tryz.func245 Tryz.ntmps245 Tryz.results245 rfl rfl (dP (dN rfl rfl (dN rfl rfl (aH (dP (dM rfl rfl (lp (po_len_str Tryz.underlying9 rfl) rfl (dN rfl rfl (aH (aF (dP (dM rfl rfl (lp (cQ rfl rfl) rfl ?_)))))))))))))
 refine aH (bH rfl (fun hc0 => ?_) (fun hc0 => ?_))
 exact absurd hc0 (by omega)
 refine aW (dP (dM rfl rfl (dM rfl rfl (lp (bY Tryz.underlying3 Tryz.underlying5 rfl u8lo) rfl (l_appB [UInt8.ofNat (ofBytes s).size] el_23 hs (fun _ => rfl) rfl rfl rfl (by decide) (by decide) (by omega) (by omega) rfl rfl (fun b15 v16 w hs => ?_))))))
 skip
 refine dN rfl rfl (aH (dP (dM rfl rfl (dM rfl rfl (aJ (o_append (k := s.length) (news := s.map byteVal) el_23 (.inl Tryz.underlying9) hs rfl rfl (src_string (s := ofBytes s)) (dH _) (by omega) (by omega) rfl (fun v19 w hs => ?_)))))))
 rw [← List.map_append, hsz] at hs
 refine dN rfl rfl (aH (dP (dM rfl rfl (dN rfl rfl (dN rfl rfl (aH (aV ⟨_, res2 rfl rfl, ?_⟩)))))))
 exact ⟨_, rfl, by simpa [Nat.add_assoc, Nat.add_comm, Nat.add_left_comm, List.append_assoc] using hs⟩
set_option maxHeartbeats 2000000 in
theorem p_bodyTXT (hG : Gl A V) (hs : Sl 5 1 ⟨w00, V0, V⟩ w ((bm, tblObj t) :: L) msg (pre.length + out.length) ((pre ++ out).map byteVal)) (hm : pre.length + out.length ≤ 68719476736) (hk : Keys t) {pv : Value} (hT : RTexts V pv ts) (hsum : (textsP ts).length ≤ 68719476736) (hd : ∀ s ∈ ts, s.length ≤ 255) (hB : CellsW ⟨w00, V0, V⟩ L bb p0 [pv]) :
  CallsV Tryz.prog 243 #[.pointer (some ⟨bb, p0, none⟩), msg, .map (some bm), .int .i64 (pre.length : Nat)] w (PackQ A w00 V0 V L bm pre (some ((⟨out, t⟩ : Ink).put (textsP ts)))) := by
 have hM : ∀ {t : List (List UInt8 × Nat)}, ∀ x ∈ L, x ∈ (bm, tblObj t) :: L := fun x hx => List.mem_cons_of_mem _ hx
 obtain ⟨a, cap, rfl, hcap, ha⟩ := SlV.form hT
 refine aT [_, _, _, _] Tryz.func243 Tryz.ntmps243 Tryz.results243 rfl rfl (dP (dN rfl rfl (dN rfl rfl (aH (dP (dM rfl rfl (dN rfl rfl (aH (aF (dP (dM rfl rfl (lp (aN rfl) rfl (lp (po_fa0' fo_188_0 rfl) rfl ?_)))))))))))))
 refine lp (aO rfl (bR k_28 (hB.ld hs.st hM 0 rfl))) rfl (lp (bC Tryz.underlying28 rfl) rfl (dM rfl rfl (aH (bQ (dC (fun g : Nat × Value => upd (upd (upd (upd (upd emp 20 (.int .i64 g.1)) 19 (.int .i64 ts.length)) 18 (.slice a ts.length cap)) 10 msg) 1 g.2) (fun g w => Sl 5 1 ⟨w00, V0, V⟩ w ((bm, tblObj t) :: L) g.2 (pre.length + (out ++ textsP (ts.take g.1)).length) ((pre ++ (out ++ textsP (ts.take g.1))).map byteVal) ∧ g.1 ≤ ts.length) (fun g => ts.length - g.1) (0, msg) (aL rfl (aL rfl (aL rfl (aL rfl (aL rfl (bG _)))))) ⟨by simpa [textsP] using hs, Nat.zero_le _⟩ ?_)))))
 clear hs
 rintro ⟨j, sv⟩ w ⟨hs, hj⟩
 simp only at hs hj ⊢
 have hpt := textsP_take ts j
 have hpl := textsP_len ts
 refine dP (lp (cY rfl rfl) rfl (aH (aF (bH rfl (fun hc0 => ?_) (fun hc0 => ?_)))))
 obtain ⟨b, p, rfl, hc⟩ := ha (by omega)
 have hjl : j < ts.length := by omega
 have hdl := hd _ (List.getElem_mem hjl)
 have hcl : V.cell b (p + j) = some (strV ts[j]) := hc j _ (by rw [List.getElem?_map, List.getElem?_eq_getElem hjl]; rfl)
 refine aW (aF (bQ (dP (lp (po_iaN j (p + j) es_28 rfl rfl rfl hjl (by omega)) rfl (lp (aO rfl (bR (v := strV ts[j]) k_9 (Vw.cell_in hs.isIn hcl))) rfl (dN rfl rfl (aH (dP (dN rfl rfl (aH (dP (dM rfl rfl (dM rfl rfl ?_)))))))))))))
 refine aZ ok_245 rfl rfl (p_packText hs (by simp; omega) hdl) rfl (fun v27 w HF => ?_)
 obtain ⟨mv, rfl, hs2⟩ := HF
 replace hs := hs2
 refine dM rfl rfl (dO rfl rfl rfl (dO rfl rfl rfl (dN rfl rfl (dN rfl rfl (aH (dP (dM rfl rfl (lp (bB (A := A) (k := .ok) rfl rfl) rfl (aH (bH rfl (fun hc1 => ?_) (fun hc1 => ?_)))))))))))
 exact absurd rfl hc1
 refine aW (aB (lp (bN rfl rfl (i64c (c := j + 1) (by omega) (by omega))) rfl (dM rfl rfl (aH ?_))))
 exact ⟨(j + 1, _), aL rfl (aL rfl (aL rfl (aL rfl (aL rfl (bG _))))), ⟨by rw [textsP_succ (List.getElem?_eq_getElem hjl)]; simpa [List.append_assoc, Nat.add_assoc] using hs, by simp only; omega⟩, by simp only; omega⟩
 refine e_exit (dP (dM rfl rfl (dN rfl rfl (dN rfl rfl (aH (aV ⟨_, res2 rfl rfl, ?_⟩))))))
 obtain rfl : j = ts.length := by omega
 exact ⟨_, _, .ok, rfl, rfl, .inl ⟨(⟨out, t⟩ : Ink).put (textsP ts), rfl, rfl, hk, by simpa [Ink.put] using hs⟩⟩
end
end Go.Proofs.YtgpfjlfkaoffeaaGreatDoor
namespace Go.Proofs.YtgpfjlfkaoffeaaGreatDoor
open Go
section
variable {A : Nat → Addr} {V V0 : Vw} {w w00 : World} {L M : List (Nat × Obj)} {msg : Value} {bm bb p0 : Nat} {pre out s : List UInt8} {t : List (List UInt8 × Nat)} {B : Base}
theorem p_realA (hs : St B w M) (x : Value) : CallsV Tryz.prog 225 #[x] w fun v w' => v = .int .u16 1 ∧ St B w' M := by
 refine aT [_] Tryz.func225 Tryz.ntmps225 Tryz.results225 rfl rfl (dP (dN rfl rfl (aH (dP (dN rfl rfl (aH (aV ⟨_, res1 rfl, ?_⟩)))))))
 exact ⟨rfl, hs⟩
theorem p_realNS (hs : St B w M) (x : Value) : CallsV Tryz.prog 229 #[x] w fun v w' => v = .int .u16 2 ∧ St B w' M := by
 refine aT [_] Tryz.func229 Tryz.ntmps229 Tryz.results229 rfl rfl (dP (dN rfl rfl (aH (dP (dN rfl rfl (aH (aV ⟨_, res1 rfl, ?_⟩)))))))
 exact ⟨rfl, hs⟩
theorem p_realCNAME (hs : St B w M) (x : Value) : CallsV Tryz.prog 232 #[x] w fun v w' => v = .int .u16 5 ∧ St B w' M := by
 refine aT [_] Tryz.func232 Tryz.ntmps232 Tryz.results232 rfl rfl (dP (dN rfl rfl (aH (dP (dN rfl rfl (aH (aV ⟨_, res1 rfl, ?_⟩)))))))
 exact ⟨rfl, hs⟩
theorem p_realSOA (hs : St B w M) (x : Value) : CallsV Tryz.prog 235 #[x] w fun v w' => v = .int .u16 6 ∧ St B w' M := by
 refine aT [_] Tryz.func235 Tryz.ntmps235 Tryz.results235 rfl rfl (dP (dN rfl rfl (aH (dP (dN rfl rfl (aH (aV ⟨_, res1 rfl, ?_⟩)))))))
 exact ⟨rfl, hs⟩
theorem p_realPTR (hs : St B w M) (x : Value) : CallsV Tryz.prog 238 #[x] w fun v w' => v = .int .u16 12 ∧ St B w' M := by
 refine aT [_] Tryz.func238 Tryz.ntmps238 Tryz.results238 rfl rfl (dP (dN rfl rfl (aH (dP (dN rfl rfl (aH (aV ⟨_, res1 rfl, ?_⟩)))))))
 exact ⟨rfl, hs⟩
theorem p_realMX (hs : St B w M) (x : Value) : CallsV Tryz.prog 241 #[x] w fun v w' => v = .int .u16 15 ∧ St B w' M := by
 refine aT [_] Tryz.func241 Tryz.ntmps241 Tryz.results241 rfl rfl (dP (dN rfl rfl (aH (dP (dN rfl rfl (aH (aV ⟨_, res1 rfl, ?_⟩)))))))
 exact ⟨rfl, hs⟩
theorem p_realTXT (hs : St B w M) (x : Value) : CallsV Tryz.prog 244 #[x] w fun v w' => v = .int .u16 16 ∧ St B w' M := by
 refine aT [_] Tryz.func244 Tryz.ntmps244 Tryz.results244 rfl rfl (dP (dN rfl rfl (aH (dP (dN rfl rfl (aH (aV ⟨_, res1 rfl, ?_⟩)))))))
 exact ⟨rfl, hs⟩
theorem p_realAAAA (hs : St B w M) (x : Value) : CallsV Tryz.prog 248 #[x] w fun v w' => v = .int .u16 28 ∧ St B w' M := by
 refine aT [_] Tryz.func248 Tryz.ntmps248 Tryz.results248 rfl rfl (dP (dN rfl rfl (aH (dP (dN rfl rfl (aH (aV ⟨_, res1 rfl, ?_⟩)))))))
 exact ⟨rfl, hs⟩
theorem p_realSRV (hs : St B w M) (x : Value) : CallsV Tryz.prog 251 #[x] w fun v w' => v = .int .u16 33 ∧ St B w' M := by
 refine aT [_] Tryz.func251 Tryz.ntmps251 Tryz.results251 rfl rfl (dP (dN rfl rfl (aH (dP (dN rfl rfl (aH (aV ⟨_, res1 rfl, ?_⟩)))))))
 exact ⟨rfl, hs⟩
theorem p_realOPT (hs : St B w M) (x : Value) : CallsV Tryz.prog 254 #[x] w fun v w' => v = .int .u16 41 ∧ St B w' M := by
 refine aT [_] Tryz.func254 Tryz.ntmps254 Tryz.results254 rfl rfl (dP (dN rfl rfl (aH (dP (dN rfl rfl (aH (aV ⟨_, res1 rfl, ?_⟩)))))))
 exact ⟨rfl, hs⟩
theorem p_realSVCB (hs : St B w M) (x : Value) : CallsV Tryz.prog 257 #[x] w fun v w' => v = .int .u16 64 ∧ St B w' M := by
 refine aT [_] Tryz.func257 Tryz.ntmps257 Tryz.results257 rfl rfl (dP (dN rfl rfl (aH (dP (dN rfl rfl (aH (aV ⟨_, res1 rfl, ?_⟩)))))))
 exact ⟨rfl, hs⟩
theorem p_realHTTPS (hs : St B w M) (x : Value) : CallsV Tryz.prog 259 #[x] w fun v w' => v = .int .u16 65 ∧ St B w' M := by
 refine aT [_] Tryz.func259 Tryz.ntmps259 Tryz.results259 rfl rfl (dP (dN rfl rfl (aH (dP (dN rfl rfl (aH (aV ⟨_, res1 rfl, ?_⟩)))))))
 exact ⟨rfl, hs⟩
theorem p_realUnknown (hs : St B w M) {ty : Nat} {dv : Value} (hL : ∀ x ∈ L, x ∈ M) (hB : CellsW B L bb p0 [.int .u16 ty, dv]) : CallsV Tryz.prog 262 #[.pointer (some ⟨bb, p0, none⟩)] w fun v w' => v = .int .u16 ty ∧ St B w' M := by
 refine aT [_] Tryz.func262 Tryz.ntmps262 Tryz.results262 rfl rfl (dP (dN rfl rfl (aH (dP (dM rfl rfl (lp (aN rfl) rfl (lp (po_fa0' fo_221_0 rfl) rfl (lp (aO rfl (bR k_87 (hB.ld hs hL 0 rfl))) rfl (dN rfl rfl (aH (aV ⟨_, res1 rfl, ?_⟩)))))))))))
 exact ⟨rfl, hs⟩
end
def RowV (V : Vw) (b : Nat) (cs : List Value) : Prop := ∀ j u, cs[j]? = some u → V.cell b (0 + j) = some u
def PBody (V : Vw) (r : PRec) (v : Value) : Prop :=
 match r.kind with
 | 1 => ∃ b, v = .iface 248 (.pointer (some ⟨b, 0, none⟩)) ∧ RowV V b ((padTo r.data 4).map byteVal)
 | 8 => ∃ b, v = .iface 262 (.pointer (some ⟨b, 0, none⟩)) ∧ RowV V b ((padTo r.data 16).map byteVal)
 | 2 => ∃ b, v = .iface 250 (.pointer (some ⟨b, 0, none⟩)) ∧ RowV V b (nmC (fitP r.host) (fitP r.host).length)
 | 3 => ∃ b, v = .iface 252 (.pointer (some ⟨b, 0, none⟩)) ∧ RowV V b (nmC (fitP r.host) (fitP r.host).length)
 | 5 => ∃ b, v = .iface 256 (.pointer (some ⟨b, 0, none⟩)) ∧ RowV V b (nmC (fitP r.host) (fitP r.host).length)
 | 6 => ∃ b, v = .iface 258 (.pointer (some ⟨b, 0, none⟩)) ∧ RowV V b (.int .u16 (r.n1 % 65536 : Nat) :: nmC (fitP r.host) (fitP r.host).length)
 | 9 => ∃ b, v = .iface 264 (.pointer (some ⟨b, 0, none⟩)) ∧ RowV V b (.int .u16 (r.n1 % 65536 : Nat) :: .int .u16 (r.n2 % 65536 : Nat) :: .int .u16 (r.n3 % 65536 : Nat) :: nmC (fitP r.host) (fitP r.host).length)
 | 4 => ∃ b, v = .iface 254 (.pointer (some ⟨b, 0, none⟩)) ∧ RowV V b (nmC (fitP r.host) (fitP r.host).length ++ (nmC (fitP r.box) (fitP r.box).length ++ [.int .u32 r.n1, .int .u32 r.n2, .int .u32 r.n3, .int .u32 r.n4, .int .u32 r.n5]))
 | 7 => ∃ b pv, v = .iface 260 (.pointer (some ⟨b, 0, none⟩)) ∧ RowV V b [pv] ∧ RTexts V pv r.texts
 | 10 => ∃ b pv, v = .iface 266 (.pointer (some ⟨b, 0, none⟩)) ∧ RowV V b [pv] ∧ RPairs V pv r.pairs
 | 11 => ∃ b pv, v = .iface 268 (.pointer (some ⟨b, 0, none⟩)) ∧ RowV V b (.int .u16 (r.n1 % 65536 : Nat) :: (nmC (fitP r.host) (fitP r.host).length ++ [pv])) ∧ RPairs V pv r.pairs
 | 12 => ∃ b pv, v = .iface 270 (.pointer (some ⟨b, 0, none⟩)) ∧ RowV V b (.int .u16 (r.n1 % 65536 : Nat) :: (nmC (fitP r.host) (fitP r.host).length ++ [pv])) ∧ RPairs V pv r.pairs
 | 13 => ∃ b pv, v = .iface 272 (.pointer (some ⟨b, 0, none⟩)) ∧ RowV V b [.int .u16 r.type, pv] ∧ RB V pv r.data
 | _ => v = .nilIface
structure Meths (A : Nat → Addr) (V : Vw) (r : PRec) (T bb fr fp : Nat) : Prop where
 rm : ∀ (w : World) (fuel : Nat), (method (fuel + 1) T (.pointer (some ⟨bb, 0, none⟩)) "loop.example/pub-domainbytes/pub/dnsmessage.realType").run Tryz.prog w = .ok (fr, .pointer (some ⟨bb, 0, none⟩)) w
 rok : callOk Tryz.prog fr = true
 rc : ∀ (w00 : World) (V0 : Vw) (w : World) (M : List (Nat × Obj)), St ⟨w00, V0, V⟩ w M → CallsV Tryz.prog fr #[.pointer (some ⟨bb, 0, none⟩)] w fun v w' => v = .int .u16 (typeOfKind r : Nat) ∧ St ⟨w00, V0, V⟩ w' M
 pm : ∀ (w : World) (fuel : Nat), (method (fuel + 1) T (.pointer (some ⟨bb, 0, none⟩)) "loop.example/pub-domainbytes/pub/dnsmessage.pack").run Tryz.prog w = .ok (fp, .pointer (some ⟨bb, 0, none⟩)) w
 pok : callOk Tryz.prog fp = true
 pc : ∀ (w00 : World) (V0 : Vw) (w : World) (L : List (Nat × Obj)) (bm : Nat) (pre out : List UInt8) (t : List (List UInt8 × Nat)) (msg : Value), Sl 5 1 ⟨w00, V0, V⟩ w ((bm, tblObj t) :: L) msg (pre.length + out.length) ((pre ++ out).map byteVal) →
  pre.length + out.length ≤ 68719476736 → Keys t → CallsV Tryz.prog fp #[.pointer (some ⟨bb, 0, none⟩), msg, .map (some bm), .int .i64 (pre.length : Nat)] w (PackQ A w00 V0 V L bm pre (bodyP r ⟨out, t⟩))
theorem be2_mod (n : Nat) : be2 (n % 65536) = be2 n := by
 unfold be2
 have h1 : UInt8.ofNat (n % 65536 / 256) = UInt8.ofNat (n / 256) := UInt8.toNat_inj.1 (by simp; omega)
 have h2 : UInt8.ofNat (n % 65536) = UInt8.ofNat n := UInt8.toNat_inj.1 (by simp)
 rw [h1, h2]
theorem RowV.cells {V : Vw} {b : Nat} {cs : List Value} (h : RowV V b cs) {w00 : World} {V0 : Vw} {L : List (Nat × Obj)} : CellsW ⟨w00, V0, V⟩ L b 0 cs := CellsW.view h
section
variable {A : Nat → Addr} {V : Vw} {r : PRec} {v : Value}
theorem PBody.meths (hG : Gl A V) (hf : FitR r) (h1 : 1 ≤ r.kind) (h13 : r.kind ≤ 13) (h : PBody V r v) : ∃ T bb fr fp, v = .iface T (.pointer (some ⟨bb, 0, none⟩)) ∧ Meths A V r T bb fr fp := by
 have hcases : r.kind = 1 ∨ r.kind = 2 ∨ r.kind = 3 ∨ r.kind = 4 ∨ r.kind = 5 ∨ r.kind = 6 ∨ r.kind = 7 ∨ r.kind = 8 ∨ r.kind = 9 ∨ r.kind = 10 ∨ r.kind = 11 ∨ r.kind = 12 ∨ r.kind = 13 := by omega
 unfold PBody at h
 rcases hcases with hk | hk | hk | hk | hk | hk | hk | hk | hk | hk | hk | hk | hk <;> rw [hk] at h <;> simp only at h
 obtain ⟨b, rfl, hB⟩ := h
 have hty : typeOfKind r = 1 := by unfold typeOfKind; rw [hk]; rfl
 refine ⟨248, b, 225, 224, rfl, ⟨fun w fuel => run_method (by kernel_rfl) fuel _, by kernel_rfl, fun w00 V0 w M hs => ?_, fun w fuel => run_method (by kernel_rfl) fuel _, by kernel_rfl, fun w00 V0 w L bm pre out t msg hs hm hkt => ?_⟩⟩
 rw [hty]; exact p_realA hs _
 unfold bodyP
 rw [hk]
 exact p_bodyA hG hs (by omega) hkt (padTo_len _ _) hB.cells
 obtain ⟨b, rfl, hB⟩ := h
 have hty : typeOfKind r = 2 := by unfold typeOfKind; rw [hk]; rfl
 refine ⟨250, b, 229, 228, rfl, ⟨fun w fuel => run_method (by kernel_rfl) fuel _, by kernel_rfl, fun w00 V0 w M hs => ?_, fun w fuel => run_method (by kernel_rfl) fuel _, by kernel_rfl, fun w00 V0 w L bm pre out t msg hs hm hkt => ?_⟩⟩
 rw [hty]; exact p_realNS hs _
 unfold bodyP
 rw [hk]
 exact p_bodyNS hG hs (by omega) hkt (fitP_len _) hB.cells
 obtain ⟨b, rfl, hB⟩ := h
 have hty : typeOfKind r = 5 := by unfold typeOfKind; rw [hk]; rfl
 refine ⟨252, b, 232, 231, rfl, ⟨fun w fuel => run_method (by kernel_rfl) fuel _, by kernel_rfl, fun w00 V0 w M hs => ?_, fun w fuel => run_method (by kernel_rfl) fuel _, by kernel_rfl, fun w00 V0 w L bm pre out t msg hs hm hkt => ?_⟩⟩
 rw [hty]; exact p_realCNAME hs _
 unfold bodyP
 rw [hk]
 exact p_bodyCNAME hG hs (by omega) hkt (fitP_len _) hB.cells
 obtain ⟨b, rfl, hB⟩ := h
 have hty : typeOfKind r = 6 := by unfold typeOfKind; rw [hk]; rfl
 refine ⟨254, b, 235, 234, rfl, ⟨fun w fuel => run_method (by kernel_rfl) fuel _, by kernel_rfl, fun w00 V0 w M hs => ?_, fun w fuel => run_method (by kernel_rfl) fuel _, by kernel_rfl, fun w00 V0 w L bm pre out t msg hs hm hkt => ?_⟩⟩
 rw [hty]; exact p_realSOA hs _
 unfold bodyP
 rw [hk]
 exact p_bodySOA hG hs (by omega) hkt (fitP_len _) (fitP_len _) hB.cells
 obtain ⟨b, rfl, hB⟩ := h
 have hty : typeOfKind r = 12 := by unfold typeOfKind; rw [hk]; rfl
 refine ⟨256, b, 238, 237, rfl, ⟨fun w fuel => run_method (by kernel_rfl) fuel _, by kernel_rfl, fun w00 V0 w M hs => ?_, fun w fuel => run_method (by kernel_rfl) fuel _, by kernel_rfl, fun w00 V0 w L bm pre out t msg hs hm hkt => ?_⟩⟩
 rw [hty]; exact p_realPTR hs _
 unfold bodyP
 rw [hk]
 exact p_bodyPTR hG hs (by omega) hkt (fitP_len _) hB.cells
 obtain ⟨b, rfl, hB⟩ := h
 have hty : typeOfKind r = 15 := by unfold typeOfKind; rw [hk]; rfl
 refine ⟨258, b, 241, 240, rfl, ⟨fun w fuel => run_method (by kernel_rfl) fuel _, by kernel_rfl, fun w00 V0 w M hs => ?_, fun w fuel => run_method (by kernel_rfl) fuel _, by kernel_rfl, fun w00 V0 w L bm pre out t msg hs hm hkt => ?_⟩⟩
 rw [hty]; exact p_realMX hs _
 unfold bodyP
 rw [hk]
 have q := p_bodyMX hG hs (by omega) hkt (fitP_len _) (Nat.mod_lt _ (by decide)) hB.cells
 rw [be2_mod] at q
 exact q
 obtain ⟨b, pv, rfl, hB, hT⟩ := h
 have hty : typeOfKind r = 16 := by unfold typeOfKind; rw [hk]; rfl
 refine ⟨260, b, 244, 243, rfl, ⟨fun w fuel => run_method (by kernel_rfl) fuel _, by kernel_rfl, fun w00 V0 w M hs => ?_, fun w fuel => run_method (by kernel_rfl) fuel _, by kernel_rfl, fun w00 V0 w L bm pre out t msg hs hm hkt => ?_⟩⟩
 rw [hty]; exact p_realTXT hs _
 unfold bodyP
 rw [hk]
 have q := p_bodyTXT hG hs (by omega) hkt hT hf.texts hf.text hB.cells
 have hno : (r.texts.any fun s => decide (255 < s.length)) = false := by
  rw [List.any_eq_false]
  intro s hs2
  have := hf.text s hs2
  simp
  omega
 simp only [hno]
 exact q
 obtain ⟨b, rfl, hB⟩ := h
 have hty : typeOfKind r = 28 := by unfold typeOfKind; rw [hk]; rfl
 refine ⟨262, b, 248, 247, rfl, ⟨fun w fuel => run_method (by kernel_rfl) fuel _, by kernel_rfl, fun w00 V0 w M hs => ?_, fun w fuel => run_method (by kernel_rfl) fuel _, by kernel_rfl, fun w00 V0 w L bm pre out t msg hs hm hkt => ?_⟩⟩
 rw [hty]; exact p_realAAAA hs _
 unfold bodyP
 rw [hk]
 exact p_bodyAAAA hG hs (by omega) hkt (padTo_len _ _) hB.cells
 obtain ⟨b, rfl, hB⟩ := h
 have hty : typeOfKind r = 33 := by unfold typeOfKind; rw [hk]; rfl
 refine ⟨264, b, 251, 250, rfl, ⟨fun w fuel => run_method (by kernel_rfl) fuel _, by kernel_rfl, fun w00 V0 w M hs => ?_, fun w fuel => run_method (by kernel_rfl) fuel _, by kernel_rfl, fun w00 V0 w L bm pre out t msg hs hm hkt => ?_⟩⟩
 rw [hty]; exact p_realSRV hs _
 unfold bodyP
 rw [hk]
 have q := p_bodySRV hG hs (by omega) hkt (fitP_len _) (Nat.mod_lt _ (by decide)) (Nat.mod_lt _ (by decide)) (Nat.mod_lt _ (by decide)) hB.cells
 simp only [be2_mod] at q
 exact q
 obtain ⟨b, pv, rfl, hB, hP⟩ := h
 have hty : typeOfKind r = 41 := by unfold typeOfKind; rw [hk]; rfl
 refine ⟨266, b, 254, 253, rfl, ⟨fun w fuel => run_method (by kernel_rfl) fuel _, by kernel_rfl, fun w00 V0 w M hs => ?_, fun w fuel => run_method (by kernel_rfl) fuel _, by kernel_rfl, fun w00 V0 w L bm pre out t msg hs hm hkt => ?_⟩⟩
 rw [hty]; exact p_realOPT hs _
 unfold bodyP
 rw [hk]
 exact p_bodyOPT hG hs (by omega) hkt hP hf.pairs hf.pair hB.cells
 obtain ⟨b, pv, rfl, hB, hP⟩ := h
 have hty : typeOfKind r = 64 := by unfold typeOfKind; rw [hk]; rfl
 refine ⟨268, b, 257, 256, rfl, ⟨fun w fuel => run_method (by kernel_rfl) fuel _, by kernel_rfl, fun w00 V0 w M hs => ?_, fun w fuel => run_method (by kernel_rfl) fuel _, by kernel_rfl, fun w00 V0 w L bm pre out t msg hs hm hkt => ?_⟩⟩
 rw [hty]; exact p_realSVCB hs _
 unfold bodyP
 rw [hk]
 have q := p_bodySVCB hG hs (by omega) hkt (fitP_len _) (Nat.mod_lt _ (by decide)) hP hf.pairs hf.pair hB.cells (off := (pre.length : Nat))
 rw [be2_mod] at q
 exact q
 obtain ⟨b, pv, rfl, hB, hP⟩ := h
 have hty : typeOfKind r = 65 := by unfold typeOfKind; rw [hk]; rfl
 refine ⟨270, b, 259, 256, rfl, ⟨fun w fuel => run_method (by kernel_rfl) fuel _, by kernel_rfl, fun w00 V0 w M hs => ?_, fun w fuel => run_methodE (by kernel_rfl) fuel _, by kernel_rfl, fun w00 V0 w L bm pre out t msg hs hm hkt => ?_⟩⟩
 rw [hty]; exact p_realHTTPS hs _
 unfold bodyP
 rw [hk]
 have q := p_bodySVCB hG hs (by omega) hkt (fitP_len _) (Nat.mod_lt _ (by decide)) hP hf.pairs hf.pair hB.cells (off := (pre.length : Nat))
 rw [be2_mod] at q
 exact q
 obtain ⟨b, pv, rfl, hB, hD⟩ := h
 have hty : typeOfKind r = r.type := by unfold typeOfKind; rw [hk]; rfl
 refine ⟨272, b, 262, 261, rfl, ⟨fun w fuel => run_method (by kernel_rfl) fuel _, by kernel_rfl, fun w00 V0 w M hs => ?_, fun w fuel => run_method (by kernel_rfl) fuel _, by kernel_rfl, fun w00 V0 w L bm pre out t msg hs hm hkt => ?_⟩⟩
 rw [hty]; exact p_realUnknown hs (fun x hx => hx) hB.cells
 unfold bodyP
 rw [hk]
 exact p_bodyUnknown hG hs (by omega) hkt hD (by have := hf.data; omega) hB.cells
end
end Go.Proofs.YtgpfjlfkaoffeaaGreatDoor
namespace Go.Proofs.YtgpfjlfkaoffeaaGreatDoor
open Go
def PackR (A : Nat → Addr) (w00 : World) (V0 V : Vw) (L : List (Nat × Obj)) (bm br : Nat) (E : TypeId) (rs : List Value) (p0 : Nat) (pre : List UInt8) (R : Option Ink) (v : Value) (w' : World) : Prop :=
 ∃ (mv e : Value) (k : EK) (rs' : List Value), v = .tuple #[mv, e] ∧ ErrV A e k ∧ rs'.length = rs.length ∧ (∀ q, p0 + 261 ≤ q → rs'[q]? = rs[q]?) ∧
  ((∃ w2 : Ink, k = .ok ∧ R = some w2 ∧ Keys w2.tbl ∧ Sl 5 1 ⟨w00, V0, V⟩ w' ((bm, tblObj w2.tbl) :: (br, .cells rs'.toArray E (0, 0)) :: L) mv (pre.length + w2.out.length) ((pre ++ w2.out).map byteVal)) ∨
   (k = .other ∧ R = none ∧ ∃ t' : List (List UInt8 × Nat), St ⟨w00, V0, V⟩ w' ((bm, tblObj t') :: (br, .cells rs'.toArray E (0, 0)) :: L)))
section
variable {A : Nat → Addr} {V V0 : Vw} {w w00 : World} {L : List (Nat × Obj)} {msg mv e bv : Value} {k : EK} {bm br p0 o : Nat} {pre out s : List UInt8} {t : List (List UInt8 × Nat)} {r : PRec} {rs : List Value} {E : TypeId} {R : Option Ink}
theorem rh_bad {X : List UInt8} (h : (∃ w2 : Ink, k = .ok ∧ R = some w2 ∧ Keys w2.tbl ∧ o = pre.length + (w2.out.length + 8) ∧ Sl 5 1 ⟨w00, V0, V⟩ w ((bm, tblObj w2.tbl) :: L) mv (pre.length + (w2.out.length + 10)) ((pre ++ (w2.out ++ X)).map byteVal)) ∨
  (k = .other ∧ R = none ∧ ∃ t' : List (List UInt8 × Nat), St ⟨w00, V0, V⟩ w ((bm, tblObj t') :: L))) (hk : k ≠ .ok) : R = none ∧ ∃ t' : List (List UInt8 × Nat), St ⟨w00, V0, V⟩ w ((bm, tblObj t') :: L) := by
 rcases h with ⟨_, h, _⟩ | h
 exact absurd h hk
 exact h.2
theorem rh_good {X : List UInt8} (h : (∃ w2 : Ink, k = .ok ∧ R = some w2 ∧ Keys w2.tbl ∧ o = pre.length + (w2.out.length + 8) ∧ Sl 5 1 ⟨w00, V0, V⟩ w ((bm, tblObj w2.tbl) :: L) mv (pre.length + (w2.out.length + 10)) ((pre ++ (w2.out ++ X)).map byteVal)) ∨
  (k = .other ∧ R = none ∧ ∃ t' : List (List UInt8 × Nat), St ⟨w00, V0, V⟩ w ((bm, tblObj t') :: L))) (hk : ¬ k ≠ .ok) :
  ∃ w2 : Ink, R = some w2 ∧ Keys w2.tbl ∧ o = pre.length + (w2.out.length + 8) ∧ Sl 5 1 ⟨w00, V0, V⟩ w ((bm, tblObj w2.tbl) :: L) mv (pre.length + (w2.out.length + 10)) ((pre ++ (w2.out ++ X)).map byteVal) := by
 rcases h with ⟨w2, _, h⟩ | ⟨h, _⟩
 exact ⟨w2, h⟩
 subst h; exact absurd (by decide) hk
theorem fl_bad {m n : Nat} {P Q : Prop} (h : (k = .ok ∧ m ≤ n ∧ P) ∨ (k = .other ∧ n < m ∧ Q)) (hk : k ≠ .ok) : n < m ∧ Q := by
 rcases h with ⟨h, _⟩ | h
 exact absurd h hk
 exact h.2
theorem fl_good {m n : Nat} {P Q : Prop} (h : (k = .ok ∧ m ≤ n ∧ P) ∨ (k = .other ∧ n < m ∧ Q)) (hk : ¬ k ≠ .ok) : m ≤ n ∧ P := by
 rcases h with h | ⟨h, _⟩
 exact h.2
 subst h; exact absurd (by decide) hk
def resC (s : List UInt8) (ty cl ttl len : Nat) (bv : Value) : List Value := rhdC s ty cl ttl len ++ [bv]
theorem resC_set {ty ty2 cl ttl len : Nat} (h255 : s.length ≤ 255) (h : ∀ j u, (resC s ty cl ttl len bv)[j]? = some u → rs[p0 + j]? = some u) : ∀ j u, (resC s ty2 cl ttl len bv)[j]? = some u → (rs.set (p0 + 256) (.int .u16 ty2))[p0 + j]? = some u := by
 have hn := cM (n := s.length) h255
 have e : ∀ x, resC s x cl ttl len bv = nmC s s.length ++ (.int .u16 x :: [.int .u16 cl, .int .u32 ttl, .int .u16 len, bv]) := fun x => by simp [resC, rhdC]
 intro j u hu
 by_cases hj : j = 256
 subst hj
 have h1 : rs[p0 + 256]? = some (.int .u16 ty) := h 256 _ (by rw [e, List.getElem?_append_right (by omega), hn]; rfl)
 have hl : p0 + 256 < rs.length := (List.getElem?_eq_some_iff.1 h1).1
 rw [e, List.getElem?_append_right (by omega), hn] at hu
 rw [List.getElem?_set_self hl]
 simpa using hu
 rw [List.getElem?_set_ne (by omega)]
 refine h j u ?_
 rw [e] at hu ⊢
 rcases Nat.lt_or_ge j 256 with hlt | hge
 rw [List.getElem?_append_left (by omega)] at hu ⊢
 exact hu
 rw [List.getElem?_append_right (by omega), hn] at hu ⊢
 obtain ⟨i, hi⟩ : ∃ i, j - 256 = i + 1 := ⟨j - 257, by omega⟩
 rw [hi, List.getElem?_cons_succ] at hu ⊢
 exact hu
set_option maxHeartbeats 4000000 in
theorem p_resource (hG : Gl A V) (hs : Sl 5 1 ⟨w00, V0, V⟩ w ((bm, tblObj t) :: (br, .cells rs.toArray E (0, 0)) :: L) msg (pre.length + out.length) ((pre ++ out).map byteVal)) (hm : pre.length + out.length ≤ 34359738368) (hk : Keys t)
  (hrow : ∀ j u, (resC (fitP r.name) r.type r.cls r.ttl r.length bv)[j]? = some u → rs[p0 + j]? = some u) (hlen : p0 + 261 ≤ rs.length) (hB : PBody V r bv) (hf : FitR r) (h1 : 1 ≤ r.kind) (h13 : r.kind ≤ 13)
  (hty : typeOfKind r < 65536) (hcl : r.cls < 65536) (hln : r.length < 65536) :
  CallsV Tryz.prog 65 #[.pointer (some ⟨br, p0, none⟩), msg, .map (some bm), .int .i64 (pre.length : Nat)] w (PackR A w00 V0 V L bm br E rs p0 pre (recP r ⟨out, t⟩)) := by
 obtain ⟨T, bb, fr, fp, rfl, hM⟩ := hB.meths hG hf h1 h13
 have h255 := fitP_len r.name
 have hn := cM (n := (fitP r.name).length) h255
 have hbody : rs[p0 + 260]? = some (.iface T (.pointer (some ⟨bb, 0, none⟩))) := hrow 260 _ (by unfold resC rhdC; rw [List.append_assoc]; exact at256 h255 4 rfl)
 have hset := resC_set (ty2 := typeOfKind r) h255 hrow
 obtain ⟨X, hX, hs⟩ := hs.open
 refine aT [_, _, _, _] Tryz.func65 Tryz.ntmps65 Tryz.results65 rfl rfl (dP (dN rfl rfl (dN rfl rfl (aH (aF (dP (dM rfl rfl (lp (aN rfl) rfl (lp (bD fo_116_1 rfl) rfl (lp (aO rfl (aQ k_114 (hs.g 1 rfl) (by rw [lget_eq]; exact hbody))) rfl (lp (po_eql_nil Tryz.underlying114 rfl) rfl (aH (aY rfl rfl ?_)))))))))))))
 refine aW (dP (dM rfl rfl (dN rfl rfl (aH (dP (dM rfl rfl (dM rfl rfl (lp (aN rfl) rfl (lp (bD fo_116_1 rfl) rfl (lp (aO rfl (aQ k_114 (hs.g 1 rfl) (by rw [lget_eq]; exact hbody))) rfl (l_invoke (hM.rm _) hM.rok rfl rfl (hM.rc _ _ _ _ hs) rfl (fun v28 w HF => ?_))))))))))))
 obtain ⟨rfl, hs2⟩ := HF
 replace hs := hs2
 refine lp (aN rfl) rfl (lp (po_fa0' fo_116_0 rfl) rfl (lp (bD fo_112_1 rfl) rfl (aJ (dQ 1 hs k_87 rfl rfl rfl rfl rfl (lset_of _ (by omega)) rfl (fun w hs => aH (aF ?_))))))
 have hcw : CellsW ⟨w00, V0, V⟩ ((br, .cells (rs.set (p0 + 256) (.int .u16 (typeOfKind r : Nat))).toArray E (0, 0)) :: L) br p0 (resC (fitP r.name) (typeOfKind r) r.cls r.ttl r.length (.iface T (.pointer (some ⟨bb, 0, none⟩)))) := CellsW.own (List.mem_cons_self ..) hset
 have hch : CellsW ⟨w00, V0, V⟩ ((br, .cells (rs.set (p0 + 256) (.int .u16 (typeOfKind r : Nat))).toArray E (0, 0)) :: L) br p0 (rhdC (fitP r.name) (typeOfKind r) r.cls r.ttl r.length) := hcw.part 0 (fun j u hu => by
  have hl : j < (rhdC (fitP r.name) (typeOfKind r) r.cls r.ttl r.length).length := (List.getElem?_eq_some_iff.1 hu).1
  unfold resC
  rw [Nat.zero_add, List.getElem?_append_left hl]; exact hu)
 refine aB (dM rfl rfl (lp (aN rfl) rfl (lp (po_fa0' fo_116_0 rfl) rfl (dM rfl rfl (dM rfl rfl (dM rfl rfl (aZ ok_147 rfl rfl (p_rheader hG (SlX.close (L := _ :: _ :: L) hX hs) (by omega) h255 hch hty hcl hln hk) rfl (fun v39 w HF => ?_))))))))
 obtain ⟨mv, e, k, o, rfl, he, hr⟩ := HF
 clear hs hX
 refine dM rfl rfl (dO rfl rfl rfl (dO rfl rfl rfl (dO rfl rfl rfl (dN rfl rfl (dN rfl rfl (dN rfl rfl (aH (aF (dP (dM rfl rfl (lp (bB he rfl) rfl (aH (bH rfl (fun hc1 => ?_) (fun hc1 => ?_))))))))))))))
 obtain ⟨hno, t', hs⟩ := rh_bad hr hc1
 refine dP (dM rfl rfl (dM rfl rfl (lp (bL rfl (by (simp only [List.all_cons, List.all_nil, he.oneCell]; rfl)) (bu_141_0_1 _ _)) rfl (aJ (cR hs rfl rfl rfl (fun b48 w hb48 hbe48 hs => ?_))))))
 replace hs := hs.drop hb48
 refine lp (cG Tryz.underlying139 (fun _ h => by cases h) rfl) rfl (dN rfl rfl (dN rfl rfl (aH (aV ⟨_, res2 rfl rfl, ?_⟩))))
 exact ⟨_, _, .other, _, rfl, dA, by simp, fun q hq => List.getElem?_set_ne (by omega), .inr ⟨rfl, by rw [← recPL_eq r.length]; unfold recPL; rw [hno]; rfl, t', hs⟩⟩
 obtain ⟨w2, hn2, hk2, rfl, hs⟩ := rh_good hr hc1
 have hgrow := nameP_len hn2
 simp only at hgrow
 refine aW (aF ?_)
 obtain ⟨sa, scap, rfl⟩ := hs.size
 refine aB (dM rfl rfl (lp (bC Tryz.underlying23 rfl) rfl (dN rfl rfl (aH (dP (dM rfl rfl (lp (aN rfl) rfl (lp (bD fo_116_1 rfl) rfl (lp (aO rfl (bR k_114 (hcw.ld hs.st (fun x hx => List.mem_cons_of_mem _ hx) 260 (by unfold resC rhdC; rw [List.append_assoc]; exact at256 h255 4 rfl)))) rfl (dM rfl rfl (dM rfl rfl (dM rfl rfl (l_invoke (hM.pm _) hM.pok rfl rfl (hM.pc _ _ _ _ _ pre (w2.out ++ (be2 (typeOfKind r) ++ be2 r.cls ++ be4 r.ttl ++ be2 r.length)) _ _ (by simpa [be2, be4] using hs) (by simp [be2, be4]; omega) hk2) rfl (fun v60 w HF => ?_))))))))))))))
 obtain ⟨mv2, e2, k2, rfl, he, hr2⟩ := HF
 clear hs
 refine dM rfl rfl (dO rfl rfl rfl (dO rfl rfl rfl (dN rfl rfl (dN rfl rfl (aH (aF (dP (dM rfl rfl (lp (bB he rfl) rfl (aH (bH rfl (fun hc2 => ?_) (fun hc2 => ?_))))))))))))
 obtain ⟨hno2, t', hs⟩ := PackQ.bad hr2 hc2
 refine dP (dM rfl rfl (dM rfl rfl (lp (bL rfl (by (simp only [List.all_cons, List.all_nil, he.oneCell]; rfl)) (bu_141_0_1 _ _)) rfl (aJ (cR hs rfl rfl rfl (fun b68 w hb68 hbe68 hs => ?_))))))
 replace hs := hs.drop hb68
 refine lp (cG Tryz.underlying139 (fun _ h => by cases h) rfl) rfl (dN rfl rfl (dN rfl rfl (aH (aV ⟨_, res2 rfl rfl, ?_⟩))))
 exact ⟨_, _, .other, _, rfl, dA, by simp, fun q hq => List.getElem?_set_ne (by omega), .inr ⟨rfl, by rw [← recPL_eq r.length]; unfold recPL; rw [hn2, Option.bind_some]; show ((bodyP r ⟨_, _⟩).bind _) = none; rw [hno2]; rfl, t', hs⟩⟩
 obtain ⟨w3, hn3, hk3, hs⟩ := PackQ.good hr2 hc2
 have hw3 := bodyP_len hn3
 have hw3b := bodyP_grow hf hn3
 simp only [List.length_append, be2, be4, List.length_cons, List.length_nil] at hw3 hw3b
 refine aW (aF (dP (dM rfl rfl (lp (aN rfl) rfl (lp (po_fa0' fo_116_0 rfl) rfl (dM rfl rfl (dM rfl rfl (dM rfl rfl (aZ ok_148 rfl rfl (p_fixLen hG hs (by omega) (lo := pre.length + (w2.out.length + 8)) (pl := pre.length + (w2.out.length + 10)) (by omega) (by omega) (by simp; omega)) rfl (fun v76 w HF => ?_))))))))))
 obtain ⟨k3, he, hr3⟩ := HF
 clear hs
 refine dN rfl rfl (aH (dP (dM rfl rfl (lp (bB he rfl) rfl (aH (bH rfl (fun hc3 => ?_) (fun hc3 => ?_)))))))
 obtain ⟨hbig, hs⟩ := fl_bad hr3 hc3
 refine dP (dM rfl rfl (dM rfl rfl (dN rfl rfl (dN rfl rfl (aH (aV ⟨_, res2 rfl rfl, ?_⟩))))))
 exact ⟨_, _, k3, _, rfl, he, by simp, fun q hq => List.getElem?_set_ne (by omega), .inr ⟨by rcases hr3 with ⟨h, _⟩ | ⟨h, _⟩; exact absurd h hc3; exact h, by rw [← recPL_eq r.length]; unfold recPL; rw [hn2, Option.bind_some]; show ((bodyP r ⟨_, _⟩).bind _) = none; rw [hn3, Option.bind_some, if_pos (by omega)], _, hs⟩⟩
 obtain ⟨hsmall, hs⟩ := fl_good hr3 hc3
 refine aW (dP (dM rfl rfl (dN rfl rfl (dN rfl rfl (aH (aV ⟨_, res2 rfl rfl, ?_⟩))))))
 have hq : pre.length + w3.out.length - (pre.length + (w2.out.length + 10)) = w3.out.length - (w2.out.length + 10) := by omega
 have hsa : setAt (pre ++ w3.out) (pre.length + (w2.out.length + 8)) (be2 (w3.out.length - (w2.out.length + 10))) = pre ++ setAt w3.out (w2.out.length + 8) (be2 (w3.out.length - (w2.out.length + 10))) := by
  unfold setAt
  rw [List.take_length_add_append, Nat.add_assoc, List.drop_length_add_append]
  simp
 rw [hq, hsa] at hs
 have hl3 := setAt_len (l := w3.out) (b := be2 (w3.out.length - (w2.out.length + 10))) (i := w2.out.length + 8) (by simp [be2]; omega)
 refine ⟨_, _, .ok, (rs.set (p0 + 256) (.int .u16 (typeOfKind r : Nat))).set (p0 + 259) (.int .u16 (w3.out.length - (w2.out.length + 10) : Nat)), rfl, rfl, by simp, fun q hq => by rw [List.getElem?_set_ne (by omega), List.getElem?_set_ne (by omega)], .inl ⟨⟨setAt w3.out (w2.out.length + 8) (be2 (w3.out.length - (w2.out.length + 10))), w3.tbl⟩, rfl, by rw [← recPL_eq r.length]; unfold recPL; rw [hn2, Option.bind_some]; show ((bodyP r ⟨_, _⟩).bind _) = some _; rw [hn3, Option.bind_some, if_neg (by omega)], hk3, by rw [hl3]; exact hs⟩⟩
end
end Go.Proofs.YtgpfjlfkaoffeaaGreatDoor

/- A body behind an interface, and whole records, as the thin package has them. -/
import Derived.Test.YtgpfjlfkaoffeaaGreatDoorP30
set_option linter.all false
namespace Go.Proofs.YtgpfjlfkaoffeaaGreatDoor
open Go
theorem bodyC_len1 {V : Vw} {t : Nat} {r : PRec} {cs : List Value} (hB : BodyC V 1 t r cs) : cs.length = 4 := by obtain ⟨rfl, h⟩ := hB; simp [h]
theorem bodyC_len2 {V : Vw} {t : Nat} {r : PRec} {cs : List Value} (hB : BodyC V 2 t r cs) : cs.length = 256 := by obtain ⟨rfl, h⟩ := hB; exact cM (by omega)
theorem bodyC_len3 {V : Vw} {t : Nat} {r : PRec} {cs : List Value} (hB : BodyC V 3 t r cs) : cs.length = 256 := by obtain ⟨rfl, h⟩ := hB; exact cM (by omega)
theorem bodyC_len4 {V : Vw} {t : Nat} {r : PRec} {cs : List Value} (hB : BodyC V 4 t r cs) : cs.length = 517 := by obtain ⟨rfl, h, h2⟩ := hB; simp [cM (show r.host.length ≤ 255 by omega), cM (show r.box.length ≤ 255 by omega)]
theorem bodyC_len5 {V : Vw} {t : Nat} {r : PRec} {cs : List Value} (hB : BodyC V 5 t r cs) : cs.length = 256 := by obtain ⟨rfl, h⟩ := hB; exact cM (by omega)
theorem bodyC_len6 {V : Vw} {t : Nat} {r : PRec} {cs : List Value} (hB : BodyC V 6 t r cs) : cs.length = 257 := by obtain ⟨rfl, h, _⟩ := hB; simp [cM (show r.host.length ≤ 255 by omega)]
theorem bodyC_len7 {V : Vw} {t : Nat} {r : PRec} {cs : List Value} (hB : BodyC V 7 t r cs) : cs.length = 1 := by obtain ⟨v, rfl, h⟩ := hB; rfl
theorem bodyC_len8 {V : Vw} {t : Nat} {r : PRec} {cs : List Value} (hB : BodyC V 8 t r cs) : cs.length = 16 := by obtain ⟨rfl, h⟩ := hB; simp [h]
theorem bodyC_len9 {V : Vw} {t : Nat} {r : PRec} {cs : List Value} (hB : BodyC V 9 t r cs) : cs.length = 259 := by obtain ⟨rfl, h, _⟩ := hB; simp [cM (show r.host.length ≤ 255 by omega)]
theorem bodyC_len10 {V : Vw} {t : Nat} {r : PRec} {cs : List Value} (hB : BodyC V 10 t r cs) : cs.length = 1 := by obtain ⟨v, rfl, h⟩ := hB; rfl
theorem bodyC_len11 {V : Vw} {t : Nat} {r : PRec} {cs : List Value} (hB : BodyC V 11 t r cs) : cs.length = 258 := by obtain ⟨v, rfl, h, _⟩ := hB; simp [cM (show r.host.length ≤ 255 by omega)]
theorem bodyC_len12 {V : Vw} {t : Nat} {r : PRec} {cs : List Value} (hB : BodyC V 12 t r cs) : cs.length = 258 := by obtain ⟨v, rfl, h, _⟩ := hB; simp [cM (show r.host.length ≤ 255 by omega)]
theorem bodyC_len13 {V : Vw} {t : Nat} {r : PRec} {cs : List Value} (hB : BodyC V 13 t r cs) : cs.length = 2 := by obtain ⟨v, rfl, h⟩ := hB; rfl
section
variable {V : Vw} {w0 : World} {t : Nat} {r : PRec} {cs : List Value} {E : TypeId} {b : Nat}
theorem c_fromBody1 (hV : V.In w0) (hb : V b = some (.cells cs.toArray E (0, 0))) (hB : BodyC V 1 t r cs) (hsm : Small r) :
  CallsV Tryz.prog 115 #[.iface 248 (.pointer (some ⟨b, 0, none⟩))] w0 fun v w' => ∃ (V' : Vw) (rc : List Value), v = .agg rc.toArray ∧ St ⟨w0, V, V'⟩ w' [] ∧ RRec V' (only 1 t r) rc := by
 have hs := St.start hV
 have hl := bodyC_len1 hB
 refine aT [_] Tryz.func115 Tryz.ntmps115 Tryz.results115 rfl rfl (dP (aJ (aX hs z_30 rfl (fun b2 w hb2 he2 hs => aH (aF (dP (dM rfl rfl (aH (bQ (dP (lp (po_ta_yes Tryz.underlying248 rfl) rfl (dO rfl rfl rfl (dO rfl rfl rfl (aH ?_))))))))))))))
 refine cO rfl rfl (dP (dN rfl rfl (aH (dP (dM rfl rfl (lp (aN rfl) rfl (lp (aO rfl (aP k_157 (hs.cell hb) hl)) rfl (aZ ok_88 rfl rfl (c_fromA hs.isIn hB hsm) rfl (fun v23 w HF => ?_)))))))))
 obtain ⟨V', rc, rfl, hc, hR⟩ := HF
 replace hs := hs.frame hc
 refine aJ (dR 0 hs k_30 rfl rfl rfl hR.flat.2 rfl hR.flat.1 rfl (fun w hs => aH (aV ⟨_, res1 ⟨_, rfl, aP k_30 (hs.g 0 rfl) hR.flat.2⟩, ?_⟩)))
 exact ⟨V', _, rfl, hs.drop hb2, hR⟩
theorem c_fromBody2 (hV : V.In w0) (hb : V b = some (.cells cs.toArray E (0, 0))) (hB : BodyC V 2 t r cs) (hsm : Small r) :
  CallsV Tryz.prog 115 #[.iface 250 (.pointer (some ⟨b, 0, none⟩))] w0 fun v w' => ∃ (V' : Vw) (rc : List Value), v = .agg rc.toArray ∧ St ⟨w0, V, V'⟩ w' [] ∧ RRec V' (only 2 t r) rc := by
 have hs := St.start hV
 have hl := bodyC_len2 hB
 refine aT [_] Tryz.func115 Tryz.ntmps115 Tryz.results115 rfl rfl (dP (aJ (aX hs z_30 rfl (fun b2 w hb2 he2 hs => aH (aF (dP (dM rfl rfl (aH (bQ (dP (lp (cC Tryz.underlying248 zo_248 rfl (by decide)) rfl (dO rfl rfl rfl (dO rfl rfl rfl (aH ?_))))))))))))))
 refine aY rfl rfl (dP (lp (po_ta_yes Tryz.underlying250 rfl) rfl (dO rfl rfl rfl (dO rfl rfl rfl (aH (cO rfl rfl (dP (dN rfl rfl (aH (dP (dM rfl rfl (lp (aN rfl) rfl (lp (aO rfl (aP k_163 (hs.cell hb) hl)) rfl ?_)))))))))))))
 refine aZ ok_90 rfl rfl (c_fromNS hs.isIn hB hsm) rfl (fun v30 w HF => ?_)
 obtain ⟨V', rc, rfl, hc, hR⟩ := HF
 replace hs := hs.frame hc
 refine aJ (dR 0 hs k_30 rfl rfl rfl hR.flat.2 rfl hR.flat.1 rfl (fun w hs => aH (aV ⟨_, res1 ⟨_, rfl, aP k_30 (hs.g 0 rfl) hR.flat.2⟩, ?_⟩)))
 exact ⟨V', _, rfl, hs.drop hb2, hR⟩
theorem c_fromBody3 (hV : V.In w0) (hb : V b = some (.cells cs.toArray E (0, 0))) (hB : BodyC V 3 t r cs) (hsm : Small r) :
  CallsV Tryz.prog 115 #[.iface 252 (.pointer (some ⟨b, 0, none⟩))] w0 fun v w' => ∃ (V' : Vw) (rc : List Value), v = .agg rc.toArray ∧ St ⟨w0, V, V'⟩ w' [] ∧ RRec V' (only 3 t r) rc := by
 have hs := St.start hV
 have hl := bodyC_len3 hB
 refine aT [_] Tryz.func115 Tryz.ntmps115 Tryz.results115 rfl rfl (dP (aJ (aX hs z_30 rfl (fun b2 w hb2 he2 hs => aH (aF (dP (dM rfl rfl (aH (bQ (dP (lp (cC Tryz.underlying248 zo_248 rfl (by decide)) rfl (dO rfl rfl rfl (dO rfl rfl rfl (aH ?_))))))))))))))
 refine aY rfl rfl (dP (lp (cC Tryz.underlying250 zo_250 rfl (by decide)) rfl (dO rfl rfl rfl (dO rfl rfl rfl (aH (aY rfl rfl (dP (lp (po_ta_yes Tryz.underlying252 rfl) rfl (dO rfl rfl rfl (dO rfl rfl rfl (aH (cO rfl rfl (dP ?_)))))))))))))
 refine dN rfl rfl (aH (dP (dM rfl rfl (lp (aN rfl) rfl (lp (aO rfl (aP k_168 (hs.cell hb) hl)) rfl (aZ ok_92 rfl rfl (c_fromCNAME hs.isIn hB hsm) rfl (fun v37 w HF => ?_)))))))
 obtain ⟨V', rc, rfl, hc, hR⟩ := HF
 replace hs := hs.frame hc
 refine aJ (dR 0 hs k_30 rfl rfl rfl hR.flat.2 rfl hR.flat.1 rfl (fun w hs => aH (aV ⟨_, res1 ⟨_, rfl, aP k_30 (hs.g 0 rfl) hR.flat.2⟩, ?_⟩)))
 exact ⟨V', _, rfl, hs.drop hb2, hR⟩
theorem c_fromBody4 (hV : V.In w0) (hb : V b = some (.cells cs.toArray E (0, 0))) (hB : BodyC V 4 t r cs) (hsm : Small r) :
  CallsV Tryz.prog 115 #[.iface 254 (.pointer (some ⟨b, 0, none⟩))] w0 fun v w' => ∃ (V' : Vw) (rc : List Value), v = .agg rc.toArray ∧ St ⟨w0, V, V'⟩ w' [] ∧ RRec V' (only 4 t r) rc := by
 have hs := St.start hV
 have hl := bodyC_len4 hB
 refine aT [_] Tryz.func115 Tryz.ntmps115 Tryz.results115 rfl rfl (dP (aJ (aX hs z_30 rfl (fun b2 w hb2 he2 hs => aH (aF (dP (dM rfl rfl (aH (bQ (dP (lp (cC Tryz.underlying248 zo_248 rfl (by decide)) rfl (dO rfl rfl rfl (dO rfl rfl rfl (aH ?_))))))))))))))
 refine aY rfl rfl (dP (lp (cC Tryz.underlying250 zo_250 rfl (by decide)) rfl (dO rfl rfl rfl (dO rfl rfl rfl (aH (aY rfl rfl (dP (lp (cC Tryz.underlying252 zo_252 rfl (by decide)) rfl (dO rfl rfl rfl (dO rfl rfl rfl (aH (aY rfl rfl (dP ?_)))))))))))))
 refine lp (po_ta_yes Tryz.underlying254 rfl) rfl (dO rfl rfl rfl (dO rfl rfl rfl (aH (cO rfl rfl (dP (dN rfl rfl (aH (dP (dM rfl rfl (lp (aN rfl) rfl (lp (aO rfl (aP k_173 (hs.cell hb) hl)) rfl (aZ ok_94 rfl rfl (c_fromSOA hs.isIn hB hsm) rfl (fun v44 w HF => ?_)))))))))))))
 obtain ⟨V', rc, rfl, hc, hR⟩ := HF
 replace hs := hs.frame hc
 refine aJ (dR 0 hs k_30 rfl rfl rfl hR.flat.2 rfl hR.flat.1 rfl (fun w hs => aH (aV ⟨_, res1 ⟨_, rfl, aP k_30 (hs.g 0 rfl) hR.flat.2⟩, ?_⟩)))
 exact ⟨V', _, rfl, hs.drop hb2, hR⟩
theorem c_fromBody5 (hV : V.In w0) (hb : V b = some (.cells cs.toArray E (0, 0))) (hB : BodyC V 5 t r cs) (hsm : Small r) :
  CallsV Tryz.prog 115 #[.iface 256 (.pointer (some ⟨b, 0, none⟩))] w0 fun v w' => ∃ (V' : Vw) (rc : List Value), v = .agg rc.toArray ∧ St ⟨w0, V, V'⟩ w' [] ∧ RRec V' (only 5 t r) rc := by
 have hs := St.start hV
 have hl := bodyC_len5 hB
 refine aT [_] Tryz.func115 Tryz.ntmps115 Tryz.results115 rfl rfl (dP (aJ (aX hs z_30 rfl (fun b2 w hb2 he2 hs => aH (aF (dP (dM rfl rfl (aH (bQ (dP (lp (cC Tryz.underlying248 zo_248 rfl (by decide)) rfl (dO rfl rfl rfl (dO rfl rfl rfl (aH ?_))))))))))))))
 refine aY rfl rfl (dP (lp (cC Tryz.underlying250 zo_250 rfl (by decide)) rfl (dO rfl rfl rfl (dO rfl rfl rfl (aH (aY rfl rfl (dP (lp (cC Tryz.underlying252 zo_252 rfl (by decide)) rfl (dO rfl rfl rfl (dO rfl rfl rfl (aH (aY rfl rfl (dP ?_)))))))))))))
 refine lp (cC Tryz.underlying254 zo_254 rfl (by decide)) rfl (dO rfl rfl rfl (dO rfl rfl rfl (aH (aY rfl rfl (dP (lp (po_ta_yes Tryz.underlying256 rfl) rfl (dO rfl rfl rfl (dO rfl rfl rfl (aH (cO rfl rfl (dP (dN rfl rfl (aH ?_)))))))))))))
 refine dP (dM rfl rfl (lp (aN rfl) rfl (lp (aO rfl (aP k_178 (hs.cell hb) hl)) rfl (aZ ok_96 rfl rfl (c_fromPTR hs.isIn hB hsm) rfl (fun v51 w HF => ?_)))))
 obtain ⟨V', rc, rfl, hc, hR⟩ := HF
 replace hs := hs.frame hc
 refine aJ (dR 0 hs k_30 rfl rfl rfl hR.flat.2 rfl hR.flat.1 rfl (fun w hs => aH (aV ⟨_, res1 ⟨_, rfl, aP k_30 (hs.g 0 rfl) hR.flat.2⟩, ?_⟩)))
 exact ⟨V', _, rfl, hs.drop hb2, hR⟩
theorem c_fromBody6 (hV : V.In w0) (hb : V b = some (.cells cs.toArray E (0, 0))) (hB : BodyC V 6 t r cs) (hsm : Small r) :
  CallsV Tryz.prog 115 #[.iface 258 (.pointer (some ⟨b, 0, none⟩))] w0 fun v w' => ∃ (V' : Vw) (rc : List Value), v = .agg rc.toArray ∧ St ⟨w0, V, V'⟩ w' [] ∧ RRec V' (only 6 t r) rc := by
 have hs := St.start hV
 have hl := bodyC_len6 hB
 refine aT [_] Tryz.func115 Tryz.ntmps115 Tryz.results115 rfl rfl (dP (aJ (aX hs z_30 rfl (fun b2 w hb2 he2 hs => aH (aF (dP (dM rfl rfl (aH (bQ (dP (lp (cC Tryz.underlying248 zo_248 rfl (by decide)) rfl (dO rfl rfl rfl (dO rfl rfl rfl (aH ?_))))))))))))))
 refine aY rfl rfl (dP (lp (cC Tryz.underlying250 zo_250 rfl (by decide)) rfl (dO rfl rfl rfl (dO rfl rfl rfl (aH (aY rfl rfl (dP (lp (cC Tryz.underlying252 zo_252 rfl (by decide)) rfl (dO rfl rfl rfl (dO rfl rfl rfl (aH (aY rfl rfl (dP ?_)))))))))))))
 refine lp (cC Tryz.underlying254 zo_254 rfl (by decide)) rfl (dO rfl rfl rfl (dO rfl rfl rfl (aH (aY rfl rfl (dP (lp (cC Tryz.underlying256 zo_256 rfl (by decide)) rfl (dO rfl rfl rfl (dO rfl rfl rfl (aH (aY rfl rfl (dP (lp (po_ta_yes Tryz.underlying258 rfl) rfl (dO rfl rfl rfl ?_)))))))))))))
 refine dO rfl rfl rfl (aH (cO rfl rfl (dP (dN rfl rfl (aH (dP (dM rfl rfl (lp (aN rfl) rfl (lp (aO rfl (aP k_183 (hs.cell hb) hl)) rfl (aZ ok_98 rfl rfl (c_fromMX hs.isIn hB hsm) rfl (fun v58 w HF => ?_)))))))))))
 obtain ⟨V', rc, rfl, hc, hR⟩ := HF
 replace hs := hs.frame hc
 refine aJ (dR 0 hs k_30 rfl rfl rfl hR.flat.2 rfl hR.flat.1 rfl (fun w hs => aH (aV ⟨_, res1 ⟨_, rfl, aP k_30 (hs.g 0 rfl) hR.flat.2⟩, ?_⟩)))
 exact ⟨V', _, rfl, hs.drop hb2, hR⟩
theorem c_fromBody7 (hV : V.In w0) (hb : V b = some (.cells cs.toArray E (0, 0))) (hB : BodyC V 7 t r cs) (hsm : Small r) :
  CallsV Tryz.prog 115 #[.iface 260 (.pointer (some ⟨b, 0, none⟩))] w0 fun v w' => ∃ (V' : Vw) (rc : List Value), v = .agg rc.toArray ∧ St ⟨w0, V, V'⟩ w' [] ∧ RRec V' (only 7 t r) rc := by
 have hs := St.start hV
 have hl := bodyC_len7 hB
 refine aT [_] Tryz.func115 Tryz.ntmps115 Tryz.results115 rfl rfl (dP (aJ (aX hs z_30 rfl (fun b2 w hb2 he2 hs => aH (aF (dP (dM rfl rfl (aH (bQ (dP (lp (cC Tryz.underlying248 zo_248 rfl (by decide)) rfl (dO rfl rfl rfl (dO rfl rfl rfl (aH ?_))))))))))))))
 refine aY rfl rfl (dP (lp (cC Tryz.underlying250 zo_250 rfl (by decide)) rfl (dO rfl rfl rfl (dO rfl rfl rfl (aH (aY rfl rfl (dP (lp (cC Tryz.underlying252 zo_252 rfl (by decide)) rfl (dO rfl rfl rfl (dO rfl rfl rfl (aH (aY rfl rfl (dP ?_)))))))))))))
 refine lp (cC Tryz.underlying254 zo_254 rfl (by decide)) rfl (dO rfl rfl rfl (dO rfl rfl rfl (aH (aY rfl rfl (dP (lp (cC Tryz.underlying256 zo_256 rfl (by decide)) rfl (dO rfl rfl rfl (dO rfl rfl rfl (aH (aY rfl rfl (dP (lp (cC Tryz.underlying258 zo_258 rfl (by decide)) rfl (dO rfl rfl rfl ?_)))))))))))))
 refine dO rfl rfl rfl (aH (aY rfl rfl (dP (lp (po_ta_yes Tryz.underlying260 rfl) rfl (dO rfl rfl rfl (dO rfl rfl rfl (aH (cO rfl rfl (dP (dN rfl rfl (aH (dP (dM rfl rfl ?_)))))))))))))
 refine lp (aN rfl) rfl (lp (aO rfl (aP k_188 (hs.cell hb) hl)) rfl (aZ ok_100 rfl rfl (c_fromTXT hs.isIn hB hsm) rfl (fun v65 w HF => ?_)))
 obtain ⟨V', rc, rfl, hc, hR⟩ := HF
 replace hs := hs.frame hc
 refine aJ (dR 0 hs k_30 rfl rfl rfl hR.flat.2 rfl hR.flat.1 rfl (fun w hs => aH (aV ⟨_, res1 ⟨_, rfl, aP k_30 (hs.g 0 rfl) hR.flat.2⟩, ?_⟩)))
 exact ⟨V', _, rfl, hs.drop hb2, hR⟩
theorem c_fromBody8 (hV : V.In w0) (hb : V b = some (.cells cs.toArray E (0, 0))) (hB : BodyC V 8 t r cs) (hsm : Small r) :
  CallsV Tryz.prog 115 #[.iface 262 (.pointer (some ⟨b, 0, none⟩))] w0 fun v w' => ∃ (V' : Vw) (rc : List Value), v = .agg rc.toArray ∧ St ⟨w0, V, V'⟩ w' [] ∧ RRec V' (only 8 t r) rc := by
 have hs := St.start hV
 have hl := bodyC_len8 hB
 refine aT [_] Tryz.func115 Tryz.ntmps115 Tryz.results115 rfl rfl (dP (aJ (aX hs z_30 rfl (fun b2 w hb2 he2 hs => aH (aF (dP (dM rfl rfl (aH (bQ (dP (lp (cC Tryz.underlying248 zo_248 rfl (by decide)) rfl (dO rfl rfl rfl (dO rfl rfl rfl (aH ?_))))))))))))))
 refine aY rfl rfl (dP (lp (cC Tryz.underlying250 zo_250 rfl (by decide)) rfl (dO rfl rfl rfl (dO rfl rfl rfl (aH (aY rfl rfl (dP (lp (cC Tryz.underlying252 zo_252 rfl (by decide)) rfl (dO rfl rfl rfl (dO rfl rfl rfl (aH (aY rfl rfl (dP ?_)))))))))))))
 refine lp (cC Tryz.underlying254 zo_254 rfl (by decide)) rfl (dO rfl rfl rfl (dO rfl rfl rfl (aH (aY rfl rfl (dP (lp (cC Tryz.underlying256 zo_256 rfl (by decide)) rfl (dO rfl rfl rfl (dO rfl rfl rfl (aH (aY rfl rfl (dP (lp (cC Tryz.underlying258 zo_258 rfl (by decide)) rfl (dO rfl rfl rfl ?_)))))))))))))
 refine dO rfl rfl rfl (aH (aY rfl rfl (dP (lp (cC Tryz.underlying260 zo_260 rfl (by decide)) rfl (dO rfl rfl rfl (dO rfl rfl rfl (aH (aY rfl rfl (dP (lp (po_ta_yes Tryz.underlying262 rfl) rfl (dO rfl rfl rfl (dO rfl rfl rfl (aH ?_)))))))))))))
 refine cO rfl rfl (dP (dN rfl rfl (aH (dP (dM rfl rfl (lp (aN rfl) rfl (lp (aO rfl (aP k_194 (hs.cell hb) hl)) rfl (aZ ok_102 rfl rfl (c_fromAAAA hs.isIn hB hsm) rfl (fun v72 w HF => ?_)))))))))
 obtain ⟨V', rc, rfl, hc, hR⟩ := HF
 replace hs := hs.frame hc
 refine aJ (dR 0 hs k_30 rfl rfl rfl hR.flat.2 rfl hR.flat.1 rfl (fun w hs => aH (aV ⟨_, res1 ⟨_, rfl, aP k_30 (hs.g 0 rfl) hR.flat.2⟩, ?_⟩)))
 exact ⟨V', _, rfl, hs.drop hb2, hR⟩
theorem c_fromBody9 (hV : V.In w0) (hb : V b = some (.cells cs.toArray E (0, 0))) (hB : BodyC V 9 t r cs) (hsm : Small r) :
  CallsV Tryz.prog 115 #[.iface 264 (.pointer (some ⟨b, 0, none⟩))] w0 fun v w' => ∃ (V' : Vw) (rc : List Value), v = .agg rc.toArray ∧ St ⟨w0, V, V'⟩ w' [] ∧ RRec V' (only 9 t r) rc := by
 have hs := St.start hV
 have hl := bodyC_len9 hB
 refine aT [_] Tryz.func115 Tryz.ntmps115 Tryz.results115 rfl rfl (dP (aJ (aX hs z_30 rfl (fun b2 w hb2 he2 hs => aH (aF (dP (dM rfl rfl (aH (bQ (dP (lp (cC Tryz.underlying248 zo_248 rfl (by decide)) rfl (dO rfl rfl rfl (dO rfl rfl rfl (aH ?_))))))))))))))
 refine aY rfl rfl (dP (lp (cC Tryz.underlying250 zo_250 rfl (by decide)) rfl (dO rfl rfl rfl (dO rfl rfl rfl (aH (aY rfl rfl (dP (lp (cC Tryz.underlying252 zo_252 rfl (by decide)) rfl (dO rfl rfl rfl (dO rfl rfl rfl (aH (aY rfl rfl (dP ?_)))))))))))))
 refine lp (cC Tryz.underlying254 zo_254 rfl (by decide)) rfl (dO rfl rfl rfl (dO rfl rfl rfl (aH (aY rfl rfl (dP (lp (cC Tryz.underlying256 zo_256 rfl (by decide)) rfl (dO rfl rfl rfl (dO rfl rfl rfl (aH (aY rfl rfl (dP (lp (cC Tryz.underlying258 zo_258 rfl (by decide)) rfl (dO rfl rfl rfl ?_)))))))))))))
 refine dO rfl rfl rfl (aH (aY rfl rfl (dP (lp (cC Tryz.underlying260 zo_260 rfl (by decide)) rfl (dO rfl rfl rfl (dO rfl rfl rfl (aH (aY rfl rfl (dP (lp (cC Tryz.underlying262 zo_262 rfl (by decide)) rfl (dO rfl rfl rfl (dO rfl rfl rfl (aH ?_)))))))))))))
 refine aY rfl rfl (dP (lp (po_ta_yes Tryz.underlying264 rfl) rfl (dO rfl rfl rfl (dO rfl rfl rfl (aH (cO rfl rfl (dP (dN rfl rfl (aH (dP (dM rfl rfl (lp (aN rfl) rfl (lp (aO rfl (aP k_199 (hs.cell hb) hl)) rfl ?_)))))))))))))
 refine aZ ok_104 rfl rfl (c_fromSRV hs.isIn hB hsm) rfl (fun v79 w HF => ?_)
 obtain ⟨V', rc, rfl, hc, hR⟩ := HF
 replace hs := hs.frame hc
 refine aJ (dR 0 hs k_30 rfl rfl rfl hR.flat.2 rfl hR.flat.1 rfl (fun w hs => aH (aV ⟨_, res1 ⟨_, rfl, aP k_30 (hs.g 0 rfl) hR.flat.2⟩, ?_⟩)))
 exact ⟨V', _, rfl, hs.drop hb2, hR⟩
theorem c_fromBody10 (hV : V.In w0) (hb : V b = some (.cells cs.toArray E (0, 0))) (hB : BodyC V 10 t r cs) (hsm : Small r) :
  CallsV Tryz.prog 115 #[.iface 266 (.pointer (some ⟨b, 0, none⟩))] w0 fun v w' => ∃ (V' : Vw) (rc : List Value), v = .agg rc.toArray ∧ St ⟨w0, V, V'⟩ w' [] ∧ RRec V' (only 10 t r) rc := by
 have hs := St.start hV
 have hl := bodyC_len10 hB
 refine aT [_] Tryz.func115 Tryz.ntmps115 Tryz.results115 rfl rfl (dP (aJ (aX hs z_30 rfl (fun b2 w hb2 he2 hs => aH (aF (dP (dM rfl rfl (aH (bQ (dP (lp (cC Tryz.underlying248 zo_248 rfl (by decide)) rfl (dO rfl rfl rfl (dO rfl rfl rfl (aH ?_))))))))))))))
 refine aY rfl rfl (dP (lp (cC Tryz.underlying250 zo_250 rfl (by decide)) rfl (dO rfl rfl rfl (dO rfl rfl rfl (aH (aY rfl rfl (dP (lp (cC Tryz.underlying252 zo_252 rfl (by decide)) rfl (dO rfl rfl rfl (dO rfl rfl rfl (aH (aY rfl rfl (dP ?_)))))))))))))
 refine lp (cC Tryz.underlying254 zo_254 rfl (by decide)) rfl (dO rfl rfl rfl (dO rfl rfl rfl (aH (aY rfl rfl (dP (lp (cC Tryz.underlying256 zo_256 rfl (by decide)) rfl (dO rfl rfl rfl (dO rfl rfl rfl (aH (aY rfl rfl (dP (lp (cC Tryz.underlying258 zo_258 rfl (by decide)) rfl (dO rfl rfl rfl ?_)))))))))))))
 refine dO rfl rfl rfl (aH (aY rfl rfl (dP (lp (cC Tryz.underlying260 zo_260 rfl (by decide)) rfl (dO rfl rfl rfl (dO rfl rfl rfl (aH (aY rfl rfl (dP (lp (cC Tryz.underlying262 zo_262 rfl (by decide)) rfl (dO rfl rfl rfl (dO rfl rfl rfl (aH ?_)))))))))))))
 refine aY rfl rfl (dP (lp (cC Tryz.underlying264 zo_264 rfl (by decide)) rfl (dO rfl rfl rfl (dO rfl rfl rfl (aH (aY rfl rfl (dP (lp (po_ta_yes Tryz.underlying266 rfl) rfl (dO rfl rfl rfl (dO rfl rfl rfl (aH (cO rfl rfl (dP ?_)))))))))))))
 refine dN rfl rfl (aH (dP (dM rfl rfl (lp (aN rfl) rfl (lp (aO rfl (aP k_205 (hs.cell hb) hl)) rfl (aZ ok_106 rfl rfl (c_fromOPT hs.isIn hB hsm) rfl (fun v86 w HF => ?_)))))))
 obtain ⟨V', rc, rfl, hc, hR⟩ := HF
 replace hs := hs.frame hc
 refine aJ (dR 0 hs k_30 rfl rfl rfl hR.flat.2 rfl hR.flat.1 rfl (fun w hs => aH (aV ⟨_, res1 ⟨_, rfl, aP k_30 (hs.g 0 rfl) hR.flat.2⟩, ?_⟩)))
 exact ⟨V', _, rfl, hs.drop hb2, hR⟩
theorem c_fromBody11 (hV : V.In w0) (hb : V b = some (.cells cs.toArray E (0, 0))) (hB : BodyC V 11 t r cs) (hsm : Small r) :
  CallsV Tryz.prog 115 #[.iface 268 (.pointer (some ⟨b, 0, none⟩))] w0 fun v w' => ∃ (V' : Vw) (rc : List Value), v = .agg rc.toArray ∧ St ⟨w0, V, V'⟩ w' [] ∧ RRec V' (only 11 t r) rc := by
 have hs := St.start hV
 have hl := bodyC_len11 hB
 refine aT [_] Tryz.func115 Tryz.ntmps115 Tryz.results115 rfl rfl (dP (aJ (aX hs z_30 rfl (fun b2 w hb2 he2 hs => aH (aF (dP (dM rfl rfl (aH (bQ (dP (lp (cC Tryz.underlying248 zo_248 rfl (by decide)) rfl (dO rfl rfl rfl (dO rfl rfl rfl (aH ?_))))))))))))))
 refine aY rfl rfl (dP (lp (cC Tryz.underlying250 zo_250 rfl (by decide)) rfl (dO rfl rfl rfl (dO rfl rfl rfl (aH (aY rfl rfl (dP (lp (cC Tryz.underlying252 zo_252 rfl (by decide)) rfl (dO rfl rfl rfl (dO rfl rfl rfl (aH (aY rfl rfl (dP ?_)))))))))))))
 refine lp (cC Tryz.underlying254 zo_254 rfl (by decide)) rfl (dO rfl rfl rfl (dO rfl rfl rfl (aH (aY rfl rfl (dP (lp (cC Tryz.underlying256 zo_256 rfl (by decide)) rfl (dO rfl rfl rfl (dO rfl rfl rfl (aH (aY rfl rfl (dP (lp (cC Tryz.underlying258 zo_258 rfl (by decide)) rfl (dO rfl rfl rfl ?_)))))))))))))
 refine dO rfl rfl rfl (aH (aY rfl rfl (dP (lp (cC Tryz.underlying260 zo_260 rfl (by decide)) rfl (dO rfl rfl rfl (dO rfl rfl rfl (aH (aY rfl rfl (dP (lp (cC Tryz.underlying262 zo_262 rfl (by decide)) rfl (dO rfl rfl rfl (dO rfl rfl rfl (aH ?_)))))))))))))
 refine aY rfl rfl (dP (lp (cC Tryz.underlying264 zo_264 rfl (by decide)) rfl (dO rfl rfl rfl (dO rfl rfl rfl (aH (aY rfl rfl (dP (lp (cC Tryz.underlying266 zo_266 rfl (by decide)) rfl (dO rfl rfl rfl (dO rfl rfl rfl (aH (aY rfl rfl (dP ?_)))))))))))))
 refine lp (po_ta_yes Tryz.underlying268 rfl) rfl (dO rfl rfl rfl (dO rfl rfl rfl (aH (cO rfl rfl (dP (dN rfl rfl (aH (dP (dM rfl rfl (lp (aN rfl) rfl (lp (aO rfl (aP k_211 (hs.cell hb) hl)) rfl (aZ ok_108 rfl rfl (c_fromSVCB hs.isIn hB hsm) rfl (fun v93 w HF => ?_)))))))))))))
 obtain ⟨V', vp, rfl, hc, hRP⟩ := HF
 replace hs := hs.frame hc
 have hR : RRec V' (only 11 t r) (recC (only 11 t r) (.slice none 0 0) (.slice none 0 0) vp) := ⟨_, _, _, rfl, RB.nil V', RTexts.nil V', hRP⟩
 refine aJ (dR 0 hs k_30 rfl rfl rfl hR.flat.2 rfl hR.flat.1 rfl (fun w hs => aH (aV ⟨_, res1 ⟨_, rfl, aP k_30 (hs.g 0 rfl) hR.flat.2⟩, ?_⟩)))
 exact ⟨V', _, rfl, hs.drop hb2, hR⟩
theorem c_fromBody12 (hV : V.In w0) (hb : V b = some (.cells cs.toArray E (0, 0))) (hB : BodyC V 12 t r cs) (hsm : Small r) :
  CallsV Tryz.prog 115 #[.iface 270 (.pointer (some ⟨b, 0, none⟩))] w0 fun v w' => ∃ (V' : Vw) (rc : List Value), v = .agg rc.toArray ∧ St ⟨w0, V, V'⟩ w' [] ∧ RRec V' (only 12 t r) rc := by
 have hs := St.start hV
 have hl := bodyC_len12 hB
 refine aT [_] Tryz.func115 Tryz.ntmps115 Tryz.results115 rfl rfl (dP (aJ (aX hs z_30 rfl (fun b2 w hb2 he2 hs => aH (aF (dP (dM rfl rfl (aH (bQ (dP (lp (cC Tryz.underlying248 zo_248 rfl (by decide)) rfl (dO rfl rfl rfl (dO rfl rfl rfl (aH ?_))))))))))))))
 refine aY rfl rfl (dP (lp (cC Tryz.underlying250 zo_250 rfl (by decide)) rfl (dO rfl rfl rfl (dO rfl rfl rfl (aH (aY rfl rfl (dP (lp (cC Tryz.underlying252 zo_252 rfl (by decide)) rfl (dO rfl rfl rfl (dO rfl rfl rfl (aH (aY rfl rfl (dP ?_)))))))))))))
 refine lp (cC Tryz.underlying254 zo_254 rfl (by decide)) rfl (dO rfl rfl rfl (dO rfl rfl rfl (aH (aY rfl rfl (dP (lp (cC Tryz.underlying256 zo_256 rfl (by decide)) rfl (dO rfl rfl rfl (dO rfl rfl rfl (aH (aY rfl rfl (dP (lp (cC Tryz.underlying258 zo_258 rfl (by decide)) rfl (dO rfl rfl rfl ?_)))))))))))))
 refine dO rfl rfl rfl (aH (aY rfl rfl (dP (lp (cC Tryz.underlying260 zo_260 rfl (by decide)) rfl (dO rfl rfl rfl (dO rfl rfl rfl (aH (aY rfl rfl (dP (lp (cC Tryz.underlying262 zo_262 rfl (by decide)) rfl (dO rfl rfl rfl (dO rfl rfl rfl (aH ?_)))))))))))))
 refine aY rfl rfl (dP (lp (cC Tryz.underlying264 zo_264 rfl (by decide)) rfl (dO rfl rfl rfl (dO rfl rfl rfl (aH (aY rfl rfl (dP (lp (cC Tryz.underlying266 zo_266 rfl (by decide)) rfl (dO rfl rfl rfl (dO rfl rfl rfl (aH (aY rfl rfl (dP ?_)))))))))))))
 refine lp (cC Tryz.underlying268 zo_268 rfl (by decide)) rfl (dO rfl rfl rfl (dO rfl rfl rfl (aH (aY rfl rfl (dP (lp (po_ta_yes Tryz.underlying270 rfl) rfl (dO rfl rfl rfl (dO rfl rfl rfl (aH (cO rfl rfl (dP (dN rfl rfl (aH ?_)))))))))))))
 refine dP (dM rfl rfl (lp (aN rfl) rfl (lp (aO rfl (aP k_216 (hs.cell hb) hl)) rfl (aZ ok_110 rfl rfl (c_fromHTTPS hs.isIn hB hsm) rfl (fun v100 w HF => ?_)))))
 obtain ⟨V', rc, rfl, hc, hR⟩ := HF
 replace hs := hs.frame hc
 refine aJ (dR 0 hs k_30 rfl rfl rfl hR.flat.2 rfl hR.flat.1 rfl (fun w hs => aH (aV ⟨_, res1 ⟨_, rfl, aP k_30 (hs.g 0 rfl) hR.flat.2⟩, ?_⟩)))
 exact ⟨V', _, rfl, hs.drop hb2, hR⟩
theorem c_fromBody13 (hV : V.In w0) (hb : V b = some (.cells cs.toArray E (0, 0))) (hB : BodyC V 13 t r cs) (hsm : Small r) :
  CallsV Tryz.prog 115 #[.iface 272 (.pointer (some ⟨b, 0, none⟩))] w0 fun v w' => ∃ (V' : Vw) (rc : List Value), v = .agg rc.toArray ∧ St ⟨w0, V, V'⟩ w' [] ∧ RRec V' (only 13 t r) rc := by
 have hs := St.start hV
 have hl := bodyC_len13 hB
 refine aT [_] Tryz.func115 Tryz.ntmps115 Tryz.results115 rfl rfl (dP (aJ (aX hs z_30 rfl (fun b2 w hb2 he2 hs => aH (aF (dP (dM rfl rfl (aH (bQ (dP (lp (cC Tryz.underlying248 zo_248 rfl (by decide)) rfl (dO rfl rfl rfl (dO rfl rfl rfl (aH ?_))))))))))))))
 refine aY rfl rfl (dP (lp (cC Tryz.underlying250 zo_250 rfl (by decide)) rfl (dO rfl rfl rfl (dO rfl rfl rfl (aH (aY rfl rfl (dP (lp (cC Tryz.underlying252 zo_252 rfl (by decide)) rfl (dO rfl rfl rfl (dO rfl rfl rfl (aH (aY rfl rfl (dP ?_)))))))))))))
 refine lp (cC Tryz.underlying254 zo_254 rfl (by decide)) rfl (dO rfl rfl rfl (dO rfl rfl rfl (aH (aY rfl rfl (dP (lp (cC Tryz.underlying256 zo_256 rfl (by decide)) rfl (dO rfl rfl rfl (dO rfl rfl rfl (aH (aY rfl rfl (dP (lp (cC Tryz.underlying258 zo_258 rfl (by decide)) rfl (dO rfl rfl rfl ?_)))))))))))))
 refine dO rfl rfl rfl (aH (aY rfl rfl (dP (lp (cC Tryz.underlying260 zo_260 rfl (by decide)) rfl (dO rfl rfl rfl (dO rfl rfl rfl (aH (aY rfl rfl (dP (lp (cC Tryz.underlying262 zo_262 rfl (by decide)) rfl (dO rfl rfl rfl (dO rfl rfl rfl (aH ?_)))))))))))))
 refine aY rfl rfl (dP (lp (cC Tryz.underlying264 zo_264 rfl (by decide)) rfl (dO rfl rfl rfl (dO rfl rfl rfl (aH (aY rfl rfl (dP (lp (cC Tryz.underlying266 zo_266 rfl (by decide)) rfl (dO rfl rfl rfl (dO rfl rfl rfl (aH (aY rfl rfl (dP ?_)))))))))))))
 refine lp (cC Tryz.underlying268 zo_268 rfl (by decide)) rfl (dO rfl rfl rfl (dO rfl rfl rfl (aH (aY rfl rfl (dP (lp (cC Tryz.underlying270 zo_270 rfl (by decide)) rfl (dO rfl rfl rfl (dO rfl rfl rfl (aH (aY rfl rfl (dP (lp (po_ta_yes Tryz.underlying272 rfl) rfl (dO rfl rfl rfl ?_)))))))))))))
 refine dO rfl rfl rfl (aH (cO rfl rfl (dP (dN rfl rfl (aH (dP (dM rfl rfl (lp (aN rfl) rfl (lp (aO rfl (aP k_221 (hs.cell hb) hl)) rfl (aZ ok_112 rfl rfl (c_fromUnknown hs.isIn hB hsm) rfl (fun v107 w HF => ?_)))))))))))
 obtain ⟨V', rc, rfl, hc, hR⟩ := HF
 replace hs := hs.frame hc
 refine aJ (dR 0 hs k_30 rfl rfl rfl hR.flat.2 rfl hR.flat.1 rfl (fun w hs => aH (aV ⟨_, res1 ⟨_, rfl, aP k_30 (hs.g 0 rfl) hR.flat.2⟩, ?_⟩)))
 exact ⟨V', _, rfl, hs.drop hb2, hR⟩
theorem c_fromBody {bv : Value} (hV : V.In w0) (hB : RBody V t bv r) (hsm : Small r) :
  CallsV Tryz.prog 115 #[bv] w0 fun v w' => ∃ (V' : Vw) (rc : List Value), v = .agg rc.toArray ∧ St ⟨w0, V, V'⟩ w' [] ∧ RRec V' (only r.kind t r) rc := by
 obtain ⟨b, cs, E, rfl, hb, hBC, h1, h2⟩ := hB
 generalize hk : r.kind = kd at *
 have h0 : kd = 1 ∨ kd = 2 ∨ kd = 3 ∨ kd = 4 ∨ kd = 5 ∨ kd = 6 ∨ kd = 7 ∨ kd = 8 ∨ kd = 9 ∨ kd = 10 ∨ kd = 11 ∨ kd = 12 ∨ kd = 13 := by omega
 rcases h0 with rfl | rfl | rfl | rfl | rfl | rfl | rfl | rfl | rfl | rfl | rfl | rfl | rfl
 exact c_fromBody1 hV hb hBC hsm
 exact c_fromBody2 hV hb hBC hsm
 exact c_fromBody3 hV hb hBC hsm
 exact c_fromBody4 hV hb hBC hsm
 exact c_fromBody5 hV hb hBC hsm
 exact c_fromBody6 hV hb hBC hsm
 exact c_fromBody7 hV hb hBC hsm
 exact c_fromBody8 hV hb hBC hsm
 exact c_fromBody9 hV hb hBC hsm
 exact c_fromBody10 hV hb hBC hsm
 exact c_fromBody11 hV hb hBC hsm
 exact c_fromBody12 hV hb hBC hsm
 exact c_fromBody13 hV hb hBC hsm
theorem c_withHeader (hV : V.In w0) {rc : List Value} {x h : PRec} (hR : RRec V x rc) (hnm : h.name.length ≤ 254) :
  CallsV Tryz.prog 114 #[.agg rc.toArray, .agg (hdrC h).toArray] w0 fun v w' => ∃ rc', v = .agg rc'.toArray ∧ St ⟨w0, V, V⟩ w' [] ∧ RRec V (whole x h) rc' := by
 obtain ⟨vd, vt, vp, rfl, h1, h2, h3⟩ := hR
 have hs := St.start hV
 have hnl := cM (out := h.name) (n := h.name.length) (by omega)
 have hfl : Flat (recC (whole x h) vd vt vp) := (RRec.flat (V := V) (r := whole x h) ⟨vd, vt, vp, rfl, h1, h2, h3⟩).1
 refine aT [_, _] Tryz.func114 Tryz.ntmps114 Tryz.results114 rfl rfl (dP (aJ (cR hs rfl rfl rfl (fun b2 w hb2 hbe2 hs => aJ (cR hs rfl rfl rfl (fun b3 w hb3 hbe3 hs => aJ (aX hs z_30 rfl (fun b4 w hb4 he4 hs => aH (aF (e_draw (fun w2 => w2.heap[b3]? = some (.cells (hdrC h).toArray 112 (0, 0))) [1, 4, 6, 8, 10] mixed (fun w hw => ?_)))))))))))
 replace hs := hw.st hs
 refine dI 0 rfl (fun w => aR fo_112_0 rfl) rfl rfl (dJ 1 rfl (hs.g 1 rfl) rfl (fun w hf => (aO rfl (ld_hd (a := nmC h.name h.name.length) k_86 hf hnl))) rfl (dI 3 rfl (fun w => aR fo_112_1 rfl) rfl rfl (dJ 4 rfl (hs.g 1 rfl) rfl (fun w hf => (aO rfl (cT k_87 hf hnl (i := 0) rfl rfl))) rfl (dI 5 rfl (fun w => aR fo_112_2 rfl) rfl rfl (dJ 6 rfl (hs.g 1 rfl) rfl (fun w hf => (aO rfl (cT k_88 hf hnl (i := 1) rfl rfl))) rfl (dI 7 rfl (fun w => aR fo_112_3 rfl) rfl rfl (dJ 8 rfl (hs.g 1 rfl) rfl (fun w hf => (aO rfl (cT cB hf hnl (i := 2) rfl rfl))) rfl (dI 9 rfl (fun w => aR fo_112_4 rfl) rfl rfl (dJ 10 rfl (hs.g 1 rfl) rfl (fun w hf => (aO rfl (cT k_22 hf hnl (i := 3) rfl rfl))) rfl (dL 2 rfl (cF (cD rfl rfl ok_113 (c_textOf hs.isIn h.name hnm)) rfl (fun v7 w HF => ?_))))))))))))
 obtain ⟨rfl, hc⟩ := HF
 replace hs := hs.frame hc
 refine ⟨fun _ => hs.g 1 rfl, dI 11 rfl (fun w => aR fo_30_0 rfl) rfl rfl (dL 12 rfl (dQ 2 hs k_9 rfl rfl rfl rfl rfl rfl rfl (fun w hs => ⟨fun _ => hs.g 1 rfl, dI 13 rfl (fun w => aR fo_30_1 rfl) rfl rfl (dL 14 rfl (dQ 2 hs k_22 rfl rfl rfl rfl rfl rfl rfl (fun w hs => ⟨fun _ => hs.g 1 rfl, dI 15 rfl (fun w => aR fo_30_2 rfl) rfl rfl (dL 16 rfl (dQ 2 hs k_22 rfl rfl rfl rfl rfl rfl rfl (fun w hs => ⟨fun _ => hs.g 1 rfl, dI 17 rfl (fun w => aR fo_30_3 rfl) rfl rfl (dL 18 rfl (dQ 2 hs cB rfl rfl rfl rfl rfl rfl rfl (fun w hs => ⟨fun _ => hs.g 1 rfl, dI 19 rfl (fun w => aR fo_30_4 rfl) rfl rfl ?_⟩)))⟩)))⟩)))⟩)))⟩
 refine dL 20 rfl (dQ 2 hs k_22 rfl rfl rfl rfl rfl rfl rfl (fun w hs => ⟨fun h => absurd h (by decide +kernel), bS (by decide +kernel) (dP (lp (aO rfl (aP k_30 (hs.g 2 rfl) rfl)) rfl (aJ (dR 0 hs k_30 rfl rfl rfl rfl rfl hfl rfl (fun w hs => aH (aV ⟨_, res1 ⟨_, rfl, aP k_30 (hs.g 0 rfl) rfl⟩, ?_⟩))))))⟩))
 exact ⟨_, rfl, ((hs.drop hb4).drop hb3).drop hb2, vd, vt, vp, rfl, h1, h2, h3⟩
end
end Go.Proofs.YtgpfjlfkaoffeaaGreatDoor

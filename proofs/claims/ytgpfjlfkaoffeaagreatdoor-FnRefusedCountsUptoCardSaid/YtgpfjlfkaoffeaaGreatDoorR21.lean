/- A body behind an interface, and whole records, as the thin package has them. Questions and records turned over. What the thin package returns of a step. A step of the questions, a step of a section. A step of a body. A parser's run. -/
import Derived.Test.YtgpfjlfkaoffeaaGreatDoorR20
import Derived.Test.YtgpfjlfkaoffeaaGreatDoorR13
set_option linter.all false
namespace Go.Proofs.YtgpfjlfkaoffeaaGreatDoor
open Go
theorem bodyC_len1 {V : Vw} {t : Nat} {r : fY} {cs : List Value} (hB : fL V 1 t r cs) : cs.length = 4 := by obtain ⟨rfl, h⟩ := hB; simp [h]
theorem bodyC_len2 {V : Vw} {t : Nat} {r : fY} {cs : List Value} (hB : fL V 2 t r cs) : cs.length = 256 := by obtain ⟨rfl, h⟩ := hB; exact cM (by omega)
theorem bodyC_len3 {V : Vw} {t : Nat} {r : fY} {cs : List Value} (hB : fL V 3 t r cs) : cs.length = 256 := by obtain ⟨rfl, h⟩ := hB; exact cM (by omega)
theorem bodyC_len4 {V : Vw} {t : Nat} {r : fY} {cs : List Value} (hB : fL V 4 t r cs) : cs.length = 517 := by obtain ⟨rfl, h, h2⟩ := hB; simp [cM (show r.host.length ≤ 255 by omega), cM (show r.box.length ≤ 255 by omega)]
theorem bodyC_len5 {V : Vw} {t : Nat} {r : fY} {cs : List Value} (hB : fL V 5 t r cs) : cs.length = 256 := by obtain ⟨rfl, h⟩ := hB; exact cM (by omega)
theorem bodyC_len6 {V : Vw} {t : Nat} {r : fY} {cs : List Value} (hB : fL V 6 t r cs) : cs.length = 257 := by obtain ⟨rfl, h, _⟩ := hB; simp [cM (show r.host.length ≤ 255 by omega)]
theorem bodyC_len7 {V : Vw} {t : Nat} {r : fY} {cs : List Value} (hB : fL V 7 t r cs) : cs.length = 1 := by obtain ⟨v, rfl, h⟩ := hB; rfl
theorem bodyC_len8 {V : Vw} {t : Nat} {r : fY} {cs : List Value} (hB : fL V 8 t r cs) : cs.length = 16 := by obtain ⟨rfl, h⟩ := hB; simp [h]
theorem bodyC_len9 {V : Vw} {t : Nat} {r : fY} {cs : List Value} (hB : fL V 9 t r cs) : cs.length = 259 := by obtain ⟨rfl, h, _⟩ := hB; simp [cM (show r.host.length ≤ 255 by omega)]
theorem bodyC_len10 {V : Vw} {t : Nat} {r : fY} {cs : List Value} (hB : fL V 10 t r cs) : cs.length = 1 := by obtain ⟨v, rfl, h⟩ := hB; rfl
theorem bodyC_len11 {V : Vw} {t : Nat} {r : fY} {cs : List Value} (hB : fL V 11 t r cs) : cs.length = 258 := by obtain ⟨v, rfl, h, _⟩ := hB; simp [cM (show r.host.length ≤ 255 by omega)]
theorem bodyC_len12 {V : Vw} {t : Nat} {r : fY} {cs : List Value} (hB : fL V 12 t r cs) : cs.length = 258 := by obtain ⟨v, rfl, h, _⟩ := hB; simp [cM (show r.host.length ≤ 255 by omega)]
theorem bodyC_len13 {V : Vw} {t : Nat} {r : fY} {cs : List Value} (hB : fL V 13 t r cs) : cs.length = 2 := by obtain ⟨v, rfl, h⟩ := hB; rfl
section
variable {V : Vw} {w0 : World} {t : Nat} {r : fY} {cs : List Value} {E : TypeId} {b : Nat}
theorem c_fromBody1 (hV : V.In w0) (hb : V b = some (.cells cs.toArray E (0, 0))) (hB : fL V 1 t r cs) (hsm : Small r) :
  eC Tryz.prog 115 #[.iface 248 (.pointer (some ⟨b, 0, none⟩))] w0 fun v w' => ∃ (V' : Vw) (rc : List Value), v = .agg rc.toArray ∧ St ⟨w0, V, V'⟩ w' [] ∧ RRec V' (only 1 t r) rc := by
 have hs := St.start hV
 have hl := bodyC_len1 hB
 refine aT [_] Tryz.func115 Tryz.ntmps115 Tryz.results115 rfl rfl (dP (aJ (aX hs z_30 rfl (fun b2 w hb2 he2 hs => aH (aF (dP (dM rfl rfl (aH (bQ (dP (lp (po_ta_yes Tryz.underlying248 rfl) rfl (dO rfl rfl rfl (dO rfl rfl rfl (aH ?_))))))))))))))
 refine cO rfl rfl (dP (dN rfl rfl (aH (dP (dM rfl rfl (lp (aN rfl) rfl (lp (aO rfl (aP k_157 (hs.cell hb) hl)) rfl (aZ ok_88 rfl rfl (c_fromA hs.isIn hB hsm) rfl (fun v23 w HF => ?_)))))))))
 obtain ⟨V', rc, rfl, hc, hR⟩ := HF
 replace hs := hs.frame hc
 refine aJ (dR 0 hs eJ rfl rfl rfl hR.flat.2 rfl hR.flat.1 rfl (fun w hs => aH (aV ⟨_, fW ⟨_, rfl, aP eJ (hs.g 0 rfl) hR.flat.2⟩, ?_⟩)))
 exact ⟨V', _, rfl, hs.drop hb2, hR⟩
theorem c_fromBody2 (hV : V.In w0) (hb : V b = some (.cells cs.toArray E (0, 0))) (hB : fL V 2 t r cs) (hsm : Small r) :
  eC Tryz.prog 115 #[.iface 250 (.pointer (some ⟨b, 0, none⟩))] w0 fun v w' => ∃ (V' : Vw) (rc : List Value), v = .agg rc.toArray ∧ St ⟨w0, V, V'⟩ w' [] ∧ RRec V' (only 2 t r) rc := by
 have hs := St.start hV
 have hl := bodyC_len2 hB
 refine aT [_] Tryz.func115 Tryz.ntmps115 Tryz.results115 rfl rfl (dP (aJ (aX hs z_30 rfl (fun b2 w hb2 he2 hs => aH (aF (dP (dM rfl rfl (aH (bQ (dP (lp (cC Tryz.underlying248 zo_248 rfl (by decide)) rfl (dO rfl rfl rfl (dO rfl rfl rfl (aH ?_))))))))))))))
 refine aY rfl rfl (dP (lp (po_ta_yes Tryz.underlying250 rfl) rfl (dO rfl rfl rfl (dO rfl rfl rfl (aH (cO rfl rfl (dP (dN rfl rfl (aH (dP (dM rfl rfl (lp (aN rfl) rfl (lp (aO rfl (aP k_163 (hs.cell hb) hl)) rfl ?_)))))))))))))
 refine aZ ok_90 rfl rfl (c_fromNS hs.isIn hB hsm) rfl (fun v30 w HF => ?_)
 obtain ⟨V', rc, rfl, hc, hR⟩ := HF
 replace hs := hs.frame hc
 refine aJ (dR 0 hs eJ rfl rfl rfl hR.flat.2 rfl hR.flat.1 rfl (fun w hs => aH (aV ⟨_, fW ⟨_, rfl, aP eJ (hs.g 0 rfl) hR.flat.2⟩, ?_⟩)))
 exact ⟨V', _, rfl, hs.drop hb2, hR⟩
theorem c_fromBody3 (hV : V.In w0) (hb : V b = some (.cells cs.toArray E (0, 0))) (hB : fL V 3 t r cs) (hsm : Small r) :
  eC Tryz.prog 115 #[.iface 252 (.pointer (some ⟨b, 0, none⟩))] w0 fun v w' => ∃ (V' : Vw) (rc : List Value), v = .agg rc.toArray ∧ St ⟨w0, V, V'⟩ w' [] ∧ RRec V' (only 3 t r) rc := by
 have hs := St.start hV
 have hl := bodyC_len3 hB
 refine aT [_] Tryz.func115 Tryz.ntmps115 Tryz.results115 rfl rfl (dP (aJ (aX hs z_30 rfl (fun b2 w hb2 he2 hs => aH (aF (dP (dM rfl rfl (aH (bQ (dP (lp (cC Tryz.underlying248 zo_248 rfl (by decide)) rfl (dO rfl rfl rfl (dO rfl rfl rfl (aH ?_))))))))))))))
 refine aY rfl rfl (dP (lp (cC Tryz.underlying250 zo_250 rfl (by decide)) rfl (dO rfl rfl rfl (dO rfl rfl rfl (aH (aY rfl rfl (dP (lp (po_ta_yes Tryz.underlying252 rfl) rfl (dO rfl rfl rfl (dO rfl rfl rfl (aH (cO rfl rfl (dP ?_)))))))))))))
 refine dN rfl rfl (aH (dP (dM rfl rfl (lp (aN rfl) rfl (lp (aO rfl (aP k_168 (hs.cell hb) hl)) rfl (aZ ok_92 rfl rfl (c_fromCNAME hs.isIn hB hsm) rfl (fun v37 w HF => ?_)))))))
 obtain ⟨V', rc, rfl, hc, hR⟩ := HF
 replace hs := hs.frame hc
 refine aJ (dR 0 hs eJ rfl rfl rfl hR.flat.2 rfl hR.flat.1 rfl (fun w hs => aH (aV ⟨_, fW ⟨_, rfl, aP eJ (hs.g 0 rfl) hR.flat.2⟩, ?_⟩)))
 exact ⟨V', _, rfl, hs.drop hb2, hR⟩
theorem c_fromBody4 (hV : V.In w0) (hb : V b = some (.cells cs.toArray E (0, 0))) (hB : fL V 4 t r cs) (hsm : Small r) :
  eC Tryz.prog 115 #[.iface 254 (.pointer (some ⟨b, 0, none⟩))] w0 fun v w' => ∃ (V' : Vw) (rc : List Value), v = .agg rc.toArray ∧ St ⟨w0, V, V'⟩ w' [] ∧ RRec V' (only 4 t r) rc := by
 have hs := St.start hV
 have hl := bodyC_len4 hB
 refine aT [_] Tryz.func115 Tryz.ntmps115 Tryz.results115 rfl rfl (dP (aJ (aX hs z_30 rfl (fun b2 w hb2 he2 hs => aH (aF (dP (dM rfl rfl (aH (bQ (dP (lp (cC Tryz.underlying248 zo_248 rfl (by decide)) rfl (dO rfl rfl rfl (dO rfl rfl rfl (aH ?_))))))))))))))
 refine aY rfl rfl (dP (lp (cC Tryz.underlying250 zo_250 rfl (by decide)) rfl (dO rfl rfl rfl (dO rfl rfl rfl (aH (aY rfl rfl (dP (lp (cC Tryz.underlying252 zo_252 rfl (by decide)) rfl (dO rfl rfl rfl (dO rfl rfl rfl (aH (aY rfl rfl (dP ?_)))))))))))))
 refine lp (po_ta_yes Tryz.underlying254 rfl) rfl (dO rfl rfl rfl (dO rfl rfl rfl (aH (cO rfl rfl (dP (dN rfl rfl (aH (dP (dM rfl rfl (lp (aN rfl) rfl (lp (aO rfl (aP k_173 (hs.cell hb) hl)) rfl (aZ ok_94 rfl rfl (c_fromSOA hs.isIn hB hsm) rfl (fun v44 w HF => ?_)))))))))))))
 obtain ⟨V', rc, rfl, hc, hR⟩ := HF
 replace hs := hs.frame hc
 refine aJ (dR 0 hs eJ rfl rfl rfl hR.flat.2 rfl hR.flat.1 rfl (fun w hs => aH (aV ⟨_, fW ⟨_, rfl, aP eJ (hs.g 0 rfl) hR.flat.2⟩, ?_⟩)))
 exact ⟨V', _, rfl, hs.drop hb2, hR⟩
theorem c_fromBody5 (hV : V.In w0) (hb : V b = some (.cells cs.toArray E (0, 0))) (hB : fL V 5 t r cs) (hsm : Small r) :
  eC Tryz.prog 115 #[.iface 256 (.pointer (some ⟨b, 0, none⟩))] w0 fun v w' => ∃ (V' : Vw) (rc : List Value), v = .agg rc.toArray ∧ St ⟨w0, V, V'⟩ w' [] ∧ RRec V' (only 5 t r) rc := by
 have hs := St.start hV
 have hl := bodyC_len5 hB
 refine aT [_] Tryz.func115 Tryz.ntmps115 Tryz.results115 rfl rfl (dP (aJ (aX hs z_30 rfl (fun b2 w hb2 he2 hs => aH (aF (dP (dM rfl rfl (aH (bQ (dP (lp (cC Tryz.underlying248 zo_248 rfl (by decide)) rfl (dO rfl rfl rfl (dO rfl rfl rfl (aH ?_))))))))))))))
 refine aY rfl rfl (dP (lp (cC Tryz.underlying250 zo_250 rfl (by decide)) rfl (dO rfl rfl rfl (dO rfl rfl rfl (aH (aY rfl rfl (dP (lp (cC Tryz.underlying252 zo_252 rfl (by decide)) rfl (dO rfl rfl rfl (dO rfl rfl rfl (aH (aY rfl rfl (dP ?_)))))))))))))
 refine lp (cC Tryz.underlying254 zo_254 rfl (by decide)) rfl (dO rfl rfl rfl (dO rfl rfl rfl (aH (aY rfl rfl (dP (lp (po_ta_yes Tryz.underlying256 rfl) rfl (dO rfl rfl rfl (dO rfl rfl rfl (aH (cO rfl rfl (dP (dN rfl rfl (aH ?_)))))))))))))
 refine dP (dM rfl rfl (lp (aN rfl) rfl (lp (aO rfl (aP k_178 (hs.cell hb) hl)) rfl (aZ ok_96 rfl rfl (c_fromPTR hs.isIn hB hsm) rfl (fun v51 w HF => ?_)))))
 obtain ⟨V', rc, rfl, hc, hR⟩ := HF
 replace hs := hs.frame hc
 refine aJ (dR 0 hs eJ rfl rfl rfl hR.flat.2 rfl hR.flat.1 rfl (fun w hs => aH (aV ⟨_, fW ⟨_, rfl, aP eJ (hs.g 0 rfl) hR.flat.2⟩, ?_⟩)))
 exact ⟨V', _, rfl, hs.drop hb2, hR⟩
theorem c_fromBody6 (hV : V.In w0) (hb : V b = some (.cells cs.toArray E (0, 0))) (hB : fL V 6 t r cs) (hsm : Small r) :
  eC Tryz.prog 115 #[.iface 258 (.pointer (some ⟨b, 0, none⟩))] w0 fun v w' => ∃ (V' : Vw) (rc : List Value), v = .agg rc.toArray ∧ St ⟨w0, V, V'⟩ w' [] ∧ RRec V' (only 6 t r) rc := by
 have hs := St.start hV
 have hl := bodyC_len6 hB
 refine aT [_] Tryz.func115 Tryz.ntmps115 Tryz.results115 rfl rfl (dP (aJ (aX hs z_30 rfl (fun b2 w hb2 he2 hs => aH (aF (dP (dM rfl rfl (aH (bQ (dP (lp (cC Tryz.underlying248 zo_248 rfl (by decide)) rfl (dO rfl rfl rfl (dO rfl rfl rfl (aH ?_))))))))))))))
 refine aY rfl rfl (dP (lp (cC Tryz.underlying250 zo_250 rfl (by decide)) rfl (dO rfl rfl rfl (dO rfl rfl rfl (aH (aY rfl rfl (dP (lp (cC Tryz.underlying252 zo_252 rfl (by decide)) rfl (dO rfl rfl rfl (dO rfl rfl rfl (aH (aY rfl rfl (dP ?_)))))))))))))
 refine lp (cC Tryz.underlying254 zo_254 rfl (by decide)) rfl (dO rfl rfl rfl (dO rfl rfl rfl (aH (aY rfl rfl (dP (lp (cC Tryz.underlying256 zo_256 rfl (by decide)) rfl (dO rfl rfl rfl (dO rfl rfl rfl (aH (aY rfl rfl (dP (lp (po_ta_yes Tryz.underlying258 rfl) rfl (dO rfl rfl rfl ?_)))))))))))))
 refine dO rfl rfl rfl (aH (cO rfl rfl (dP (dN rfl rfl (aH (dP (dM rfl rfl (lp (aN rfl) rfl (lp (aO rfl (aP k_183 (hs.cell hb) hl)) rfl (aZ ok_98 rfl rfl (c_fromMX hs.isIn hB hsm) rfl (fun v58 w HF => ?_)))))))))))
 obtain ⟨V', rc, rfl, hc, hR⟩ := HF
 replace hs := hs.frame hc
 refine aJ (dR 0 hs eJ rfl rfl rfl hR.flat.2 rfl hR.flat.1 rfl (fun w hs => aH (aV ⟨_, fW ⟨_, rfl, aP eJ (hs.g 0 rfl) hR.flat.2⟩, ?_⟩)))
 exact ⟨V', _, rfl, hs.drop hb2, hR⟩
theorem c_fromBody7 (hV : V.In w0) (hb : V b = some (.cells cs.toArray E (0, 0))) (hB : fL V 7 t r cs) (hsm : Small r) :
  eC Tryz.prog 115 #[.iface 260 (.pointer (some ⟨b, 0, none⟩))] w0 fun v w' => ∃ (V' : Vw) (rc : List Value), v = .agg rc.toArray ∧ St ⟨w0, V, V'⟩ w' [] ∧ RRec V' (only 7 t r) rc := by
 have hs := St.start hV
 have hl := bodyC_len7 hB
 refine aT [_] Tryz.func115 Tryz.ntmps115 Tryz.results115 rfl rfl (dP (aJ (aX hs z_30 rfl (fun b2 w hb2 he2 hs => aH (aF (dP (dM rfl rfl (aH (bQ (dP (lp (cC Tryz.underlying248 zo_248 rfl (by decide)) rfl (dO rfl rfl rfl (dO rfl rfl rfl (aH ?_))))))))))))))
 refine aY rfl rfl (dP (lp (cC Tryz.underlying250 zo_250 rfl (by decide)) rfl (dO rfl rfl rfl (dO rfl rfl rfl (aH (aY rfl rfl (dP (lp (cC Tryz.underlying252 zo_252 rfl (by decide)) rfl (dO rfl rfl rfl (dO rfl rfl rfl (aH (aY rfl rfl (dP ?_)))))))))))))
 refine lp (cC Tryz.underlying254 zo_254 rfl (by decide)) rfl (dO rfl rfl rfl (dO rfl rfl rfl (aH (aY rfl rfl (dP (lp (cC Tryz.underlying256 zo_256 rfl (by decide)) rfl (dO rfl rfl rfl (dO rfl rfl rfl (aH (aY rfl rfl (dP (lp (cC Tryz.underlying258 zo_258 rfl (by decide)) rfl (dO rfl rfl rfl ?_)))))))))))))
 refine dO rfl rfl rfl (aH (aY rfl rfl (dP (lp (po_ta_yes Tryz.underlying260 rfl) rfl (dO rfl rfl rfl (dO rfl rfl rfl (aH (cO rfl rfl (dP (dN rfl rfl (aH (dP (dM rfl rfl ?_)))))))))))))
 refine lp (aN rfl) rfl (lp (aO rfl (aP k_188 (hs.cell hb) hl)) rfl (aZ ok_100 rfl rfl (c_fromTXT hs.isIn hB hsm) rfl (fun v65 w HF => ?_)))
 obtain ⟨V', rc, rfl, hc, hR⟩ := HF
 replace hs := hs.frame hc
 refine aJ (dR 0 hs eJ rfl rfl rfl hR.flat.2 rfl hR.flat.1 rfl (fun w hs => aH (aV ⟨_, fW ⟨_, rfl, aP eJ (hs.g 0 rfl) hR.flat.2⟩, ?_⟩)))
 exact ⟨V', _, rfl, hs.drop hb2, hR⟩
theorem c_fromBody8 (hV : V.In w0) (hb : V b = some (.cells cs.toArray E (0, 0))) (hB : fL V 8 t r cs) (hsm : Small r) :
  eC Tryz.prog 115 #[.iface 262 (.pointer (some ⟨b, 0, none⟩))] w0 fun v w' => ∃ (V' : Vw) (rc : List Value), v = .agg rc.toArray ∧ St ⟨w0, V, V'⟩ w' [] ∧ RRec V' (only 8 t r) rc := by
 have hs := St.start hV
 have hl := bodyC_len8 hB
 refine aT [_] Tryz.func115 Tryz.ntmps115 Tryz.results115 rfl rfl (dP (aJ (aX hs z_30 rfl (fun b2 w hb2 he2 hs => aH (aF (dP (dM rfl rfl (aH (bQ (dP (lp (cC Tryz.underlying248 zo_248 rfl (by decide)) rfl (dO rfl rfl rfl (dO rfl rfl rfl (aH ?_))))))))))))))
 refine aY rfl rfl (dP (lp (cC Tryz.underlying250 zo_250 rfl (by decide)) rfl (dO rfl rfl rfl (dO rfl rfl rfl (aH (aY rfl rfl (dP (lp (cC Tryz.underlying252 zo_252 rfl (by decide)) rfl (dO rfl rfl rfl (dO rfl rfl rfl (aH (aY rfl rfl (dP ?_)))))))))))))
 refine lp (cC Tryz.underlying254 zo_254 rfl (by decide)) rfl (dO rfl rfl rfl (dO rfl rfl rfl (aH (aY rfl rfl (dP (lp (cC Tryz.underlying256 zo_256 rfl (by decide)) rfl (dO rfl rfl rfl (dO rfl rfl rfl (aH (aY rfl rfl (dP (lp (cC Tryz.underlying258 zo_258 rfl (by decide)) rfl (dO rfl rfl rfl ?_)))))))))))))
 refine dO rfl rfl rfl (aH (aY rfl rfl (dP (lp (cC Tryz.underlying260 zo_260 rfl (by decide)) rfl (dO rfl rfl rfl (dO rfl rfl rfl (aH (aY rfl rfl (dP (lp (po_ta_yes Tryz.underlying262 rfl) rfl (dO rfl rfl rfl (dO rfl rfl rfl (aH ?_)))))))))))))
 refine cO rfl rfl (dP (dN rfl rfl (aH (dP (dM rfl rfl (lp (aN rfl) rfl (lp (aO rfl (aP k_194 (hs.cell hb) hl)) rfl (aZ ok_102 rfl rfl (c_fromAAAA hs.isIn hB hsm) rfl (fun v72 w HF => ?_)))))))))
 obtain ⟨V', rc, rfl, hc, hR⟩ := HF
 replace hs := hs.frame hc
 refine aJ (dR 0 hs eJ rfl rfl rfl hR.flat.2 rfl hR.flat.1 rfl (fun w hs => aH (aV ⟨_, fW ⟨_, rfl, aP eJ (hs.g 0 rfl) hR.flat.2⟩, ?_⟩)))
 exact ⟨V', _, rfl, hs.drop hb2, hR⟩
theorem c_fromBody9 (hV : V.In w0) (hb : V b = some (.cells cs.toArray E (0, 0))) (hB : fL V 9 t r cs) (hsm : Small r) :
  eC Tryz.prog 115 #[.iface 264 (.pointer (some ⟨b, 0, none⟩))] w0 fun v w' => ∃ (V' : Vw) (rc : List Value), v = .agg rc.toArray ∧ St ⟨w0, V, V'⟩ w' [] ∧ RRec V' (only 9 t r) rc := by
 have hs := St.start hV
 have hl := bodyC_len9 hB
 refine aT [_] Tryz.func115 Tryz.ntmps115 Tryz.results115 rfl rfl (dP (aJ (aX hs z_30 rfl (fun b2 w hb2 he2 hs => aH (aF (dP (dM rfl rfl (aH (bQ (dP (lp (cC Tryz.underlying248 zo_248 rfl (by decide)) rfl (dO rfl rfl rfl (dO rfl rfl rfl (aH ?_))))))))))))))
 refine aY rfl rfl (dP (lp (cC Tryz.underlying250 zo_250 rfl (by decide)) rfl (dO rfl rfl rfl (dO rfl rfl rfl (aH (aY rfl rfl (dP (lp (cC Tryz.underlying252 zo_252 rfl (by decide)) rfl (dO rfl rfl rfl (dO rfl rfl rfl (aH (aY rfl rfl (dP ?_)))))))))))))
 refine lp (cC Tryz.underlying254 zo_254 rfl (by decide)) rfl (dO rfl rfl rfl (dO rfl rfl rfl (aH (aY rfl rfl (dP (lp (cC Tryz.underlying256 zo_256 rfl (by decide)) rfl (dO rfl rfl rfl (dO rfl rfl rfl (aH (aY rfl rfl (dP (lp (cC Tryz.underlying258 zo_258 rfl (by decide)) rfl (dO rfl rfl rfl ?_)))))))))))))
 refine dO rfl rfl rfl (aH (aY rfl rfl (dP (lp (cC Tryz.underlying260 zo_260 rfl (by decide)) rfl (dO rfl rfl rfl (dO rfl rfl rfl (aH (aY rfl rfl (dP (lp (cC Tryz.underlying262 zo_262 rfl (by decide)) rfl (dO rfl rfl rfl (dO rfl rfl rfl (aH ?_)))))))))))))
 refine aY rfl rfl (dP (lp (po_ta_yes Tryz.underlying264 rfl) rfl (dO rfl rfl rfl (dO rfl rfl rfl (aH (cO rfl rfl (dP (dN rfl rfl (aH (dP (dM rfl rfl (lp (aN rfl) rfl (lp (aO rfl (aP k_199 (hs.cell hb) hl)) rfl ?_)))))))))))))
 refine aZ ok_104 rfl rfl (c_fromSRV hs.isIn hB hsm) rfl (fun v79 w HF => ?_)
 obtain ⟨V', rc, rfl, hc, hR⟩ := HF
 replace hs := hs.frame hc
 refine aJ (dR 0 hs eJ rfl rfl rfl hR.flat.2 rfl hR.flat.1 rfl (fun w hs => aH (aV ⟨_, fW ⟨_, rfl, aP eJ (hs.g 0 rfl) hR.flat.2⟩, ?_⟩)))
 exact ⟨V', _, rfl, hs.drop hb2, hR⟩
theorem c_fromBody10 (hV : V.In w0) (hb : V b = some (.cells cs.toArray E (0, 0))) (hB : fL V 10 t r cs) (hsm : Small r) :
  eC Tryz.prog 115 #[.iface 266 (.pointer (some ⟨b, 0, none⟩))] w0 fun v w' => ∃ (V' : Vw) (rc : List Value), v = .agg rc.toArray ∧ St ⟨w0, V, V'⟩ w' [] ∧ RRec V' (only 10 t r) rc := by
 have hs := St.start hV
 have hl := bodyC_len10 hB
 refine aT [_] Tryz.func115 Tryz.ntmps115 Tryz.results115 rfl rfl (dP (aJ (aX hs z_30 rfl (fun b2 w hb2 he2 hs => aH (aF (dP (dM rfl rfl (aH (bQ (dP (lp (cC Tryz.underlying248 zo_248 rfl (by decide)) rfl (dO rfl rfl rfl (dO rfl rfl rfl (aH ?_))))))))))))))
 refine aY rfl rfl (dP (lp (cC Tryz.underlying250 zo_250 rfl (by decide)) rfl (dO rfl rfl rfl (dO rfl rfl rfl (aH (aY rfl rfl (dP (lp (cC Tryz.underlying252 zo_252 rfl (by decide)) rfl (dO rfl rfl rfl (dO rfl rfl rfl (aH (aY rfl rfl (dP ?_)))))))))))))
 refine lp (cC Tryz.underlying254 zo_254 rfl (by decide)) rfl (dO rfl rfl rfl (dO rfl rfl rfl (aH (aY rfl rfl (dP (lp (cC Tryz.underlying256 zo_256 rfl (by decide)) rfl (dO rfl rfl rfl (dO rfl rfl rfl (aH (aY rfl rfl (dP (lp (cC Tryz.underlying258 zo_258 rfl (by decide)) rfl (dO rfl rfl rfl ?_)))))))))))))
 refine dO rfl rfl rfl (aH (aY rfl rfl (dP (lp (cC Tryz.underlying260 zo_260 rfl (by decide)) rfl (dO rfl rfl rfl (dO rfl rfl rfl (aH (aY rfl rfl (dP (lp (cC Tryz.underlying262 zo_262 rfl (by decide)) rfl (dO rfl rfl rfl (dO rfl rfl rfl (aH ?_)))))))))))))
 refine aY rfl rfl (dP (lp (cC Tryz.underlying264 zo_264 rfl (by decide)) rfl (dO rfl rfl rfl (dO rfl rfl rfl (aH (aY rfl rfl (dP (lp (po_ta_yes Tryz.underlying266 rfl) rfl (dO rfl rfl rfl (dO rfl rfl rfl (aH (cO rfl rfl (dP ?_)))))))))))))
 refine dN rfl rfl (aH (dP (dM rfl rfl (lp (aN rfl) rfl (lp (aO rfl (aP k_205 (hs.cell hb) hl)) rfl (aZ ok_106 rfl rfl (c_fromOPT hs.isIn hB hsm) rfl (fun v86 w HF => ?_)))))))
 obtain ⟨V', rc, rfl, hc, hR⟩ := HF
 replace hs := hs.frame hc
 refine aJ (dR 0 hs eJ rfl rfl rfl hR.flat.2 rfl hR.flat.1 rfl (fun w hs => aH (aV ⟨_, fW ⟨_, rfl, aP eJ (hs.g 0 rfl) hR.flat.2⟩, ?_⟩)))
 exact ⟨V', _, rfl, hs.drop hb2, hR⟩
theorem c_fromBody11 (hV : V.In w0) (hb : V b = some (.cells cs.toArray E (0, 0))) (hB : fL V 11 t r cs) (hsm : Small r) :
  eC Tryz.prog 115 #[.iface 268 (.pointer (some ⟨b, 0, none⟩))] w0 fun v w' => ∃ (V' : Vw) (rc : List Value), v = .agg rc.toArray ∧ St ⟨w0, V, V'⟩ w' [] ∧ RRec V' (only 11 t r) rc := by
 have hs := St.start hV
 have hl := bodyC_len11 hB
 refine aT [_] Tryz.func115 Tryz.ntmps115 Tryz.results115 rfl rfl (dP (aJ (aX hs z_30 rfl (fun b2 w hb2 he2 hs => aH (aF (dP (dM rfl rfl (aH (bQ (dP (lp (cC Tryz.underlying248 zo_248 rfl (by decide)) rfl (dO rfl rfl rfl (dO rfl rfl rfl (aH ?_))))))))))))))
 refine aY rfl rfl (dP (lp (cC Tryz.underlying250 zo_250 rfl (by decide)) rfl (dO rfl rfl rfl (dO rfl rfl rfl (aH (aY rfl rfl (dP (lp (cC Tryz.underlying252 zo_252 rfl (by decide)) rfl (dO rfl rfl rfl (dO rfl rfl rfl (aH (aY rfl rfl (dP ?_)))))))))))))
 refine lp (cC Tryz.underlying254 zo_254 rfl (by decide)) rfl (dO rfl rfl rfl (dO rfl rfl rfl (aH (aY rfl rfl (dP (lp (cC Tryz.underlying256 zo_256 rfl (by decide)) rfl (dO rfl rfl rfl (dO rfl rfl rfl (aH (aY rfl rfl (dP (lp (cC Tryz.underlying258 zo_258 rfl (by decide)) rfl (dO rfl rfl rfl ?_)))))))))))))
 refine dO rfl rfl rfl (aH (aY rfl rfl (dP (lp (cC Tryz.underlying260 zo_260 rfl (by decide)) rfl (dO rfl rfl rfl (dO rfl rfl rfl (aH (aY rfl rfl (dP (lp (cC Tryz.underlying262 zo_262 rfl (by decide)) rfl (dO rfl rfl rfl (dO rfl rfl rfl (aH ?_)))))))))))))
 refine aY rfl rfl (dP (lp (cC Tryz.underlying264 zo_264 rfl (by decide)) rfl (dO rfl rfl rfl (dO rfl rfl rfl (aH (aY rfl rfl (dP (lp (cC Tryz.underlying266 zo_266 rfl (by decide)) rfl (dO rfl rfl rfl (dO rfl rfl rfl (aH (aY rfl rfl (dP ?_)))))))))))))
 refine lp (po_ta_yes Tryz.underlying268 rfl) rfl (dO rfl rfl rfl (dO rfl rfl rfl (aH (cO rfl rfl (dP (dN rfl rfl (aH (dP (dM rfl rfl (lp (aN rfl) rfl (lp (aO rfl (aP k_211 (hs.cell hb) hl)) rfl (aZ ok_108 rfl rfl (c_fromSVCB hs.isIn hB hsm) rfl (fun v93 w HF => ?_)))))))))))))
 obtain ⟨V', vp, rfl, hc, hRP⟩ := HF
 replace hs := hs.frame hc
 have hR : RRec V' (only 11 t r) (eY (only 11 t r) (.slice none 0 0) (.slice none 0 0) vp) := ⟨_, _, _, rfl, RB.nil V', fF.nil V', hRP⟩
 refine aJ (dR 0 hs eJ rfl rfl rfl hR.flat.2 rfl hR.flat.1 rfl (fun w hs => aH (aV ⟨_, fW ⟨_, rfl, aP eJ (hs.g 0 rfl) hR.flat.2⟩, ?_⟩)))
 exact ⟨V', _, rfl, hs.drop hb2, hR⟩
theorem c_fromBody12 (hV : V.In w0) (hb : V b = some (.cells cs.toArray E (0, 0))) (hB : fL V 12 t r cs) (hsm : Small r) :
  eC Tryz.prog 115 #[.iface 270 (.pointer (some ⟨b, 0, none⟩))] w0 fun v w' => ∃ (V' : Vw) (rc : List Value), v = .agg rc.toArray ∧ St ⟨w0, V, V'⟩ w' [] ∧ RRec V' (only 12 t r) rc := by
 have hs := St.start hV
 have hl := bodyC_len12 hB
 refine aT [_] Tryz.func115 Tryz.ntmps115 Tryz.results115 rfl rfl (dP (aJ (aX hs z_30 rfl (fun b2 w hb2 he2 hs => aH (aF (dP (dM rfl rfl (aH (bQ (dP (lp (cC Tryz.underlying248 zo_248 rfl (by decide)) rfl (dO rfl rfl rfl (dO rfl rfl rfl (aH ?_))))))))))))))
 refine aY rfl rfl (dP (lp (cC Tryz.underlying250 zo_250 rfl (by decide)) rfl (dO rfl rfl rfl (dO rfl rfl rfl (aH (aY rfl rfl (dP (lp (cC Tryz.underlying252 zo_252 rfl (by decide)) rfl (dO rfl rfl rfl (dO rfl rfl rfl (aH (aY rfl rfl (dP ?_)))))))))))))
 refine lp (cC Tryz.underlying254 zo_254 rfl (by decide)) rfl (dO rfl rfl rfl (dO rfl rfl rfl (aH (aY rfl rfl (dP (lp (cC Tryz.underlying256 zo_256 rfl (by decide)) rfl (dO rfl rfl rfl (dO rfl rfl rfl (aH (aY rfl rfl (dP (lp (cC Tryz.underlying258 zo_258 rfl (by decide)) rfl (dO rfl rfl rfl ?_)))))))))))))
 refine dO rfl rfl rfl (aH (aY rfl rfl (dP (lp (cC Tryz.underlying260 zo_260 rfl (by decide)) rfl (dO rfl rfl rfl (dO rfl rfl rfl (aH (aY rfl rfl (dP (lp (cC Tryz.underlying262 zo_262 rfl (by decide)) rfl (dO rfl rfl rfl (dO rfl rfl rfl (aH ?_)))))))))))))
 refine aY rfl rfl (dP (lp (cC Tryz.underlying264 zo_264 rfl (by decide)) rfl (dO rfl rfl rfl (dO rfl rfl rfl (aH (aY rfl rfl (dP (lp (cC Tryz.underlying266 zo_266 rfl (by decide)) rfl (dO rfl rfl rfl (dO rfl rfl rfl (aH (aY rfl rfl (dP ?_)))))))))))))
 refine lp (cC Tryz.underlying268 zo_268 rfl (by decide)) rfl (dO rfl rfl rfl (dO rfl rfl rfl (aH (aY rfl rfl (dP (lp (po_ta_yes Tryz.underlying270 rfl) rfl (dO rfl rfl rfl (dO rfl rfl rfl (aH (cO rfl rfl (dP (dN rfl rfl (aH ?_)))))))))))))
 refine dP (dM rfl rfl (lp (aN rfl) rfl (lp (aO rfl (aP k_216 (hs.cell hb) hl)) rfl (aZ ok_110 rfl rfl (c_fromHTTPS hs.isIn hB hsm) rfl (fun v100 w HF => ?_)))))
 obtain ⟨V', rc, rfl, hc, hR⟩ := HF
 replace hs := hs.frame hc
 refine aJ (dR 0 hs eJ rfl rfl rfl hR.flat.2 rfl hR.flat.1 rfl (fun w hs => aH (aV ⟨_, fW ⟨_, rfl, aP eJ (hs.g 0 rfl) hR.flat.2⟩, ?_⟩)))
 exact ⟨V', _, rfl, hs.drop hb2, hR⟩
theorem c_fromBody13 (hV : V.In w0) (hb : V b = some (.cells cs.toArray E (0, 0))) (hB : fL V 13 t r cs) (hsm : Small r) :
  eC Tryz.prog 115 #[.iface 272 (.pointer (some ⟨b, 0, none⟩))] w0 fun v w' => ∃ (V' : Vw) (rc : List Value), v = .agg rc.toArray ∧ St ⟨w0, V, V'⟩ w' [] ∧ RRec V' (only 13 t r) rc := by
 have hs := St.start hV
 have hl := bodyC_len13 hB
 refine aT [_] Tryz.func115 Tryz.ntmps115 Tryz.results115 rfl rfl (dP (aJ (aX hs z_30 rfl (fun b2 w hb2 he2 hs => aH (aF (dP (dM rfl rfl (aH (bQ (dP (lp (cC Tryz.underlying248 zo_248 rfl (by decide)) rfl (dO rfl rfl rfl (dO rfl rfl rfl (aH ?_))))))))))))))
 refine aY rfl rfl (dP (lp (cC Tryz.underlying250 zo_250 rfl (by decide)) rfl (dO rfl rfl rfl (dO rfl rfl rfl (aH (aY rfl rfl (dP (lp (cC Tryz.underlying252 zo_252 rfl (by decide)) rfl (dO rfl rfl rfl (dO rfl rfl rfl (aH (aY rfl rfl (dP ?_)))))))))))))
 refine lp (cC Tryz.underlying254 zo_254 rfl (by decide)) rfl (dO rfl rfl rfl (dO rfl rfl rfl (aH (aY rfl rfl (dP (lp (cC Tryz.underlying256 zo_256 rfl (by decide)) rfl (dO rfl rfl rfl (dO rfl rfl rfl (aH (aY rfl rfl (dP (lp (cC Tryz.underlying258 zo_258 rfl (by decide)) rfl (dO rfl rfl rfl ?_)))))))))))))
 refine dO rfl rfl rfl (aH (aY rfl rfl (dP (lp (cC Tryz.underlying260 zo_260 rfl (by decide)) rfl (dO rfl rfl rfl (dO rfl rfl rfl (aH (aY rfl rfl (dP (lp (cC Tryz.underlying262 zo_262 rfl (by decide)) rfl (dO rfl rfl rfl (dO rfl rfl rfl (aH ?_)))))))))))))
 refine aY rfl rfl (dP (lp (cC Tryz.underlying264 zo_264 rfl (by decide)) rfl (dO rfl rfl rfl (dO rfl rfl rfl (aH (aY rfl rfl (dP (lp (cC Tryz.underlying266 zo_266 rfl (by decide)) rfl (dO rfl rfl rfl (dO rfl rfl rfl (aH (aY rfl rfl (dP ?_)))))))))))))
 refine lp (cC Tryz.underlying268 zo_268 rfl (by decide)) rfl (dO rfl rfl rfl (dO rfl rfl rfl (aH (aY rfl rfl (dP (lp (cC Tryz.underlying270 zo_270 rfl (by decide)) rfl (dO rfl rfl rfl (dO rfl rfl rfl (aH (aY rfl rfl (dP (lp (po_ta_yes Tryz.underlying272 rfl) rfl (dO rfl rfl rfl ?_)))))))))))))
 refine dO rfl rfl rfl (aH (cO rfl rfl (dP (dN rfl rfl (aH (dP (dM rfl rfl (lp (aN rfl) rfl (lp (aO rfl (aP k_221 (hs.cell hb) hl)) rfl (aZ ok_112 rfl rfl (c_fromUnknown hs.isIn hB hsm) rfl (fun v107 w HF => ?_)))))))))))
 obtain ⟨V', rc, rfl, hc, hR⟩ := HF
 replace hs := hs.frame hc
 refine aJ (dR 0 hs eJ rfl rfl rfl hR.flat.2 rfl hR.flat.1 rfl (fun w hs => aH (aV ⟨_, fW ⟨_, rfl, aP eJ (hs.g 0 rfl) hR.flat.2⟩, ?_⟩)))
 exact ⟨V', _, rfl, hs.drop hb2, hR⟩
theorem c_fromBody {bv : Value} (hV : V.In w0) (hB : RBody V t bv r) (hsm : Small r) :
  eC Tryz.prog 115 #[bv] w0 fun v w' => ∃ (V' : Vw) (rc : List Value), v = .agg rc.toArray ∧ St ⟨w0, V, V'⟩ w' [] ∧ RRec V' (only r.kind t r) rc := by
 obtain ⟨b, cs, E, rfl, hb, hBC, h1, h2⟩ := hB
 generalize hk : r.kind = kd at *
 have h0 : kd = 1 ∨ kd = 2 ∨ kd = 3 ∨ kd = 4 ∨ kd = 5 ∨ kd = 6 ∨ kd = 7 ∨ kd = 8 ∨ kd = 9 ∨ kd = 10 ∨ kd = 11 ∨ kd = 12 ∨ kd = 13 := by omega
 rcases h0 with rfl | rfl | rfl | rfl | rfl | rfl | rfl | rfl | rfl | rfl | rfl | rfl | rfl
 exact c_fromBody1 hV hb hBC hsm
 exact c_fromBody2 hV hb hBC hsm
 exact c_fromBody3 hV hb hBC hsm
 exact c_fromBody4 hV hb hBC hsm
 exact c_fromBody5 hV hb hBC hsm
 exact c_fromBody6 hV hb hBC hsm
 exact c_fromBody7 hV hb hBC hsm
 exact c_fromBody8 hV hb hBC hsm
 exact c_fromBody9 hV hb hBC hsm
 exact c_fromBody10 hV hb hBC hsm
 exact c_fromBody11 hV hb hBC hsm
 exact c_fromBody12 hV hb hBC hsm
 exact c_fromBody13 hV hb hBC hsm
theorem c_withHeader (hV : V.In w0) {rc : List Value} {x h : fY} (hR : RRec V x rc) (hnm : h.name.length ≤ 254) :
  eC Tryz.prog 114 #[.agg rc.toArray, .agg (hdrC h).toArray] w0 fun v w' => ∃ rc', v = .agg rc'.toArray ∧ St ⟨w0, V, V⟩ w' [] ∧ RRec V (whole x h) rc' := by
 obtain ⟨vd, vt, vp, rfl, h1, h2, h3⟩ := hR
 have hs := St.start hV
 have hnl := cM (out := h.name) (n := h.name.length) (by omega)
 have hfl : Flat (eY (whole x h) vd vt vp) := (RRec.flat (V := V) (r := whole x h) ⟨vd, vt, vp, rfl, h1, h2, h3⟩).1
 refine aT [_, _] Tryz.func114 Tryz.ntmps114 Tryz.results114 rfl rfl (dP (aJ (cR hs rfl rfl rfl (fun b2 w hb2 hbe2 hs => aJ (cR hs rfl rfl rfl (fun b3 w hb3 hbe3 hs => aJ (aX hs z_30 rfl (fun b4 w hb4 he4 hs => aH (aF (e_draw (fun w2 => w2.heap[b3]? = some (.cells (hdrC h).toArray 112 (0, 0))) [1, 4, 6, 8, 10] mixed (fun w hw => ?_)))))))))))
 replace hs := hw.st hs
 refine dI 0 rfl (fun w => aR fo_112_0 rfl) rfl rfl (dJ 1 rfl (hs.g 1 rfl) rfl (fun w hf => (aO rfl (ld_hd (a := nmC h.name h.name.length) k_86 hf hnl))) rfl (dI 3 rfl (fun w => aR fo_112_1 rfl) rfl rfl (dJ 4 rfl (hs.g 1 rfl) rfl (fun w hf => (aO rfl (cT k_87 hf hnl (i := 0) rfl rfl))) rfl (dI 5 rfl (fun w => aR fo_112_2 rfl) rfl rfl (dJ 6 rfl (hs.g 1 rfl) rfl (fun w hf => (aO rfl (cT k_88 hf hnl (i := 1) rfl rfl))) rfl (dI 7 rfl (fun w => aR fo_112_3 rfl) rfl rfl (dJ 8 rfl (hs.g 1 rfl) rfl (fun w hf => (aO rfl (cT cB hf hnl (i := 2) rfl rfl))) rfl (dI 9 rfl (fun w => aR fo_112_4 rfl) rfl rfl (dJ 10 rfl (hs.g 1 rfl) rfl (fun w hf => (aO rfl (cT eS hf hnl (i := 3) rfl rfl))) rfl (dL 2 rfl (cF (cD rfl rfl ok_113 (c_textOf hs.isIn h.name hnm)) rfl (fun v7 w HF => ?_))))))))))))
 obtain ⟨rfl, hc⟩ := HF
 replace hs := hs.frame hc
 refine ⟨fun _ => hs.g 1 rfl, dI 11 rfl (fun w => aR fo_30_0 rfl) rfl rfl (dL 12 rfl (dQ 2 hs k_9 rfl rfl rfl rfl rfl rfl rfl (fun w hs => ⟨fun _ => hs.g 1 rfl, dI 13 rfl (fun w => aR fo_30_1 rfl) rfl rfl (dL 14 rfl (dQ 2 hs eS rfl rfl rfl rfl rfl rfl rfl (fun w hs => ⟨fun _ => hs.g 1 rfl, dI 15 rfl (fun w => aR fo_30_2 rfl) rfl rfl (dL 16 rfl (dQ 2 hs eS rfl rfl rfl rfl rfl rfl rfl (fun w hs => ⟨fun _ => hs.g 1 rfl, dI 17 rfl (fun w => aR fo_30_3 rfl) rfl rfl (dL 18 rfl (dQ 2 hs cB rfl rfl rfl rfl rfl rfl rfl (fun w hs => ⟨fun _ => hs.g 1 rfl, dI 19 rfl (fun w => aR fo_30_4 rfl) rfl rfl ?_⟩)))⟩)))⟩)))⟩)))⟩
 refine dL 20 rfl (dQ 2 hs eS rfl rfl rfl rfl rfl rfl rfl (fun w hs => ⟨fun h => absurd h (by decide +kernel), bS (by decide +kernel) (dP (lp (aO rfl (aP eJ (hs.g 2 rfl) rfl)) rfl (aJ (dR 0 hs eJ rfl rfl rfl rfl rfl hfl rfl (fun w hs => aH (aV ⟨_, fW ⟨_, rfl, aP eJ (hs.g 0 rfl) rfl⟩, ?_⟩))))))⟩))
 exact ⟨_, rfl, ((hs.drop hb4).drop hb3).drop hb2, vd, vt, vp, rfl, h1, h2, h3⟩
end
end Go.Proofs.YtgpfjlfkaoffeaaGreatDoor
namespace Go.Proofs.YtgpfjlfkaoffeaaGreatDoor
open Go
section
variable {V : Vw} {w0 : World}
theorem c_askOf (hV : V.In w0) {a : PAsk} {qcs : List Value} (hQ : RQ a qcs) : eC Tryz.prog 46 #[.agg qcs.toArray] w0 fun v w' => v = .agg (askC a).toArray ∧ St ⟨w0, V, V⟩ w' [] := by
 obtain ⟨rfl, hn⟩ := hQ
 have hnl := cM (out := a.name) (n := a.name.length) (by omega)
 have hs := St.start hV
 refine aT [_] Tryz.func46 Tryz.ntmps46 Tryz.results46 rfl rfl (dP (aJ (cR hs rfl rfl rfl (fun b1 w hb1 hbe1 hs => aJ (aX hs z_77 rfl (fun b2 w hb2 he2 hs => aH (aF (bV hs [1, 4, 6] mixed (fun w hs => dI 0 rfl (fun w => aR fo_90_0 rfl) rfl rfl (dJ 1 rfl hs rfl (fun w hs => (aO rfl (ld_hd (a := nmC a.name a.name.length) k_86 (hs.g 1 rfl) hnl))) rfl (dI 3 rfl (fun w => aR fo_90_1 rfl) rfl rfl (dJ 4 rfl hs rfl (fun w hs => (aO rfl (cT k_87 (hs.g 1 rfl) hnl (i := 0) rfl rfl))) rfl (dI 5 rfl (fun w => aR fo_90_2 rfl) rfl rfl (dJ 6 rfl hs rfl (fun w hs => (aO rfl (cT k_88 (hs.g 1 rfl) hnl (i := 1) rfl rfl))) rfl (dL 2 rfl (cF (cD rfl rfl ok_113 (c_textOf hs.isIn a.name hn)) rfl (fun v5 w HF => ?_)))))))))))))))))
 obtain ⟨rfl, hc⟩ := HF
 replace hs := hs.frame hc
 refine ⟨fun _ => hs, dI 7 rfl (fun w => (bL rfl (by rfl) (bu_77_0_1_2 _ _ _))) rfl rfl (dL 8 rfl (dR 0 hs k_77 rfl rfl rfl (by simp) (by simp) (aG rfl) rfl (fun w hs => ⟨fun h => absurd h (by decide +kernel), bS (by decide +kernel) (aV ⟨_, fW ⟨_, rfl, aP k_77 (hs.g 0 rfl) rfl⟩, ?_⟩)⟩)))⟩
 exact ⟨rfl, (hs.drop hb2).drop hb1⟩
theorem c_recordOf (hV : V.In w0) {x : fY} {rcs : List Value} (hR : RRes V x rcs) : eC Tryz.prog 47 #[.agg rcs.toArray] w0 fun v w' => ∃ (V' : Vw) (rc : List Value), v = .agg rc.toArray ∧ St ⟨w0, V, V'⟩ w' [] ∧ RRec V' x rc := by
 obtain ⟨h, r, bv, rfl, rfl, hB, hnm, hsm, hnorm⟩ := hR
 have hhl := hdrC_len hnm
 have hs := St.start hV
 refine aT [_] Tryz.func47 Tryz.ntmps47 Tryz.results47 rfl rfl (dP (aJ (cR hs rfl rfl rfl (fun b1 w hb1 hbe1 hs => aJ (aX hs z_30 rfl (fun b2 w hb2 he2 hs => aH (aF (e_draw (fun w2 => w2.heap[b1]? = some (.cells (hdrC h ++ [bv]).toArray 116 (0, 0))) [1, 4] mixed (fun w hw => ?_)))))))))
 replace hs := hw.st hs
 refine dI 0 rfl (fun w => aR fo_116_1 rfl) rfl rfl (dJ 1 rfl (hs.g 1 rfl) rfl (fun w hf => (aO rfl (cT k_114 hf hhl (i := 0) rfl rfl))) rfl (dI 3 rfl (fun w => aR fo_116_0 rfl) rfl rfl (dJ 4 rfl (hs.g 1 rfl) rfl (fun w hf => (aO rfl (ld_hd k_112 hf hhl))) rfl (dL 2 rfl (cF (cD rfl rfl ok_115 (c_fromBody hs.isIn hB hsm)) rfl (fun v5 w HF => ?_))))))
 obtain ⟨V', rc, rfl, hc, hRR⟩ := HF
 replace hs := hs.frame hc
 refine ⟨fun _ => hs.g 1 rfl, dL 5 rfl (cF (cD rfl rfl ok_114 (c_withHeader hs.isIn hRR hnm)) rfl (fun v8 w HF => ?_))⟩
 obtain ⟨rc', rfl, hc, hRR2⟩ := HF
 replace hs := hs.frame hc
 refine ⟨fun _ => hs.g 1 rfl, dL 6 rfl (dR 0 hs eJ rfl rfl rfl hRR2.flat.2 rfl hRR2.flat.1 rfl (fun w hs => ⟨fun h => absurd h (by decide +kernel), bS (by decide +kernel) (aV ⟨_, fW ⟨_, rfl, aP eJ (hs.g 0 rfl) hRR2.flat.2⟩, ?_⟩)⟩))⟩
 rw [hnorm] at hRR2
 exact ⟨V', _, rfl, (hs.drop hb2).drop hb1, hRR2⟩
set_option maxHeartbeats 1000000 in
theorem c_asksOf (hV : V.In w0) {qv : Value} {al : List PAsk} (hQ : RQs V qv al) (hn : al.length ≤ 70000) :
  eC Tryz.prog 19 #[qv] w0 fun v w' => ∃ V' : Vw, St ⟨w0, V, V'⟩ w' [] ∧ RAsks V' v al := by
 obtain ⟨xs, hS, hR⟩ := hQ
 obtain ⟨a, cap, rfl, hcap, ha⟩ := hS.form
 have hs := St.start hV
 refine aT [_] Tryz.func19 Tryz.ntmps19 Tryz.results19 rfl rfl (dP (dN rfl rfl (aH (dP (aJ (fP es_34 hs rfl (fun b6 w hb6 he6 hs => ?_)))))))
 have hsl : Sl 77 3 ⟨w0, V, V⟩ w [] (.slice (some ⟨b6, 0, none⟩) 0 0) 0 [] := Sl.empty hs hb6
 refine dN rfl rfl (aH (aF (dP (dM rfl rfl (lp (bC Tryz.underlying51 rfl) rfl (dM rfl rfl (aH (bQ (dC (fun g : Nat × List Value × Value × Vw => eH (eH (eH (eH emp 9 (.int .i64 g.1)) 8 (.int .i64 al.length)) 7 (.slice a al.length cap)) 3 g.2.2.1) (fun g w' => Sl 77 3 ⟨w0, V, g.2.2.2⟩ w' [] g.2.2.1 g.1 g.2.1 ∧ Rows 3 (fun a c => c = askC a) (al.take g.1) g.2.1 ∧ g.1 ≤ al.length) (fun g => al.length - g.1) (0, [], .slice (some ⟨b6, 0, none⟩) 0 0, V) (aL rfl (aL rfl (aL rfl (aL rfl (bG _))))) ⟨hsl, rfl, Nat.zero_le _⟩ ?_)))))))))
 clear hsl hs
 rintro ⟨j, ys, sv, Vc⟩ w ⟨hsl, hrows, hj⟩
 simp only at hsl hrows hj ⊢
 have hle := hsl.st.view
 refine dP (lp (cY rfl rfl) rfl (aH (aF (bH rfl (fun hc0 => ?_) (fun hc0 => ?_)))))
 obtain ⟨b, p, rfl, hc⟩ := ha (by omega)
 have hjl : j < al.length := by omega
 obtain ⟨c, hRQ, hcl, hct⟩ := hR.at (List.getElem?_eq_getElem hjl)
 have hcf := hRQ.flat
 obtain ⟨X, hX, hs⟩ := hsl.open
 refine aW (aF (bQ (dP (lp (eZ j (p + j * 258) es_51 rfl rfl rfl hjl rfl) rfl ?_))))
 refine lp (aO rfl (ld_cells (l := c) k_90 hcl (fun i u hu => by
  rw [Nat.add_assoc]
  exact Vw.cell_in hs.isIn (Vw.cell_le hle (hc _ _ (fN hct hu)))))) rfl ?_
 refine aJ (aX hs z_90 rfl (fun b5 w hb5 he5 hs => aJ (dR 0 hs k_90 rfl rfl rfl hcl (by simp) hcf.2 rfl (fun w hs => aH (aB (dM rfl rfl (lp (aO rfl (aP k_90 (hs.g 0 rfl) hcl)) rfl (aZ ok_46 rfl rfl (c_askOf hs.isIn hRQ) rfl (fun v15 w HF => ?_)))))))))
 obtain ⟨rfl, hc⟩ := HF
 replace hs := hs.frame hc
 refine l_app1 (cl := askC al[j]) el_34 (SlX.close (L := [_]) hX hs) (fun _ => rfl) rfl rfl rfl (askC_flat _) (by omega) (by omega) (by omega) rfl rfl (fun b16 sv' w hs => ?_)
 replace hs := hs.drop hb5
 skip
 refine dN rfl rfl (aH (aB (lp (bN rfl rfl (fV (c := j + 1) (by omega) (by omega))) rfl (dM rfl rfl (aH ?_)))))
 exact ⟨(j + 1, _, sv', Vc), aL rfl (aL rfl (aL rfl (aL rfl (bG _)))), ⟨hs, by
  show Rows 3 (fun a c => c = askC a) (al.take (j + 1)) _
  rw [List.take_succ, List.getElem?_eq_getElem hjl]
  exact Rows.snoc hrows rfl rfl, by simp only; omega⟩, by simp only; omega⟩
 refine eT (aF ?_)
 have hjn : j = al.length := by omega
 subst hjn
 rw [List.take_length] at hrows
 obtain ⟨V', hle', hsv, hs⟩ := hsl.give
 refine aB (dM rfl rfl (dN rfl rfl (aH (aV ⟨_, fW rfl, ?_⟩))))
 exact ⟨V', hs, _, hsv, hrows⟩
set_option maxHeartbeats 1000000 in
theorem c_recordsOf (hV : V.In w0) {qv : Value} {al : List fY} (hQ : RRess V qv al) (hn : al.length ≤ 70000) :
  eC Tryz.prog 20 #[qv] w0 fun v w' => ∃ V' : Vw, St ⟨w0, V, V'⟩ w' [] ∧ RRecs V' v al := by
 obtain ⟨xs, hS, hR⟩ := hQ
 obtain ⟨a, cap, rfl, hcap, ha⟩ := hS.form
 have hs := St.start hV
 refine aT [_] Tryz.func20 Tryz.ntmps20 Tryz.results20 rfl rfl (dP (dN rfl rfl (aH (dP (aJ (fP es_31 hs rfl (fun b6 w hb6 he6 hs => ?_)))))))
 have hsl : Sl 30 16 ⟨w0, V, V⟩ w [] (.slice (some ⟨b6, 0, none⟩) 0 0) 0 [] := Sl.empty hs hb6
 refine dN rfl rfl (aH (aF (dP (dM rfl rfl (lp (bC Tryz.underlying52 rfl) rfl (dM rfl rfl (aH (bQ (dC (fun g : Nat × List Value × Value × Vw => eH (eH (eH (eH emp 9 (.int .i64 g.1)) 8 (.int .i64 al.length)) 7 (.slice a al.length cap)) 3 g.2.2.1) (fun g w' => Sl 30 16 ⟨w0, V, g.2.2.2⟩ w' [] g.2.2.1 g.1 g.2.1 ∧ Rows 16 (RRec g.2.2.2) (al.take g.1) g.2.1 ∧ g.1 ≤ al.length) (fun g => al.length - g.1) (0, [], .slice (some ⟨b6, 0, none⟩) 0 0, V) (aL rfl (aL rfl (aL rfl (aL rfl (bG _))))) ⟨hsl, rfl, Nat.zero_le _⟩ ?_)))))))))
 clear hsl hs
 rintro ⟨j, ys, sv, Vc⟩ w ⟨hsl, hrows, hj⟩
 simp only at hsl hrows hj ⊢
 have hle := hsl.st.view
 refine dP (lp (cY rfl rfl) rfl (aH (aF (bH rfl (fun hc0 => ?_) (fun hc0 => ?_)))))
 obtain ⟨b, p, rfl, hc⟩ := ha (by omega)
 have hjl : j < al.length := by omega
 obtain ⟨c, hRQ, hcl, hct⟩ := hR.at (List.getElem?_eq_getElem hjl)
 have hcf := hRQ.flat
 obtain ⟨X, hX, hs⟩ := hsl.open
 refine aW (aF (bQ (dP (lp (eZ j (p + j * 261) es_52 rfl rfl rfl hjl rfl) rfl ?_))))
 refine lp (aO rfl (ld_cells (l := c) k_116 hcl (fun i u hu => by
  rw [Nat.add_assoc]
  exact Vw.cell_in hs.isIn (Vw.cell_le hle (hc _ _ (fN hct hu)))))) rfl ?_
 refine aJ (aX hs z_116 rfl (fun b5 w hb5 he5 hs => aJ (dR 0 hs k_116 rfl rfl rfl hcl (by simp) hcf.2 rfl (fun w hs => aH (aB (dM rfl rfl (lp (aO rfl (aP k_116 (hs.g 0 rfl) hcl)) rfl (aZ ok_47 rfl rfl (c_recordOf hs.isIn (hRQ.mono hle)) rfl (fun v15 w HF => ?_)))))))))
 obtain ⟨V', rc, rfl, hc, hRR⟩ := HF
 replace hs := hs.frame hc
 have hle' := hc.view
 refine l_app1 (cl := rc) el_31 (SlX.close (L := [_]) hX hs) (fun _ => rfl) rfl rfl hRR.flat.2 hRR.flat.1 (by omega) (by omega) (by omega) rfl rfl (fun b16 sv' w hs => ?_)
 replace hs := hs.drop hb5
 skip
 refine dN rfl rfl (aH (aB (lp (bN rfl rfl (fV (c := j + 1) (by omega) (by omega))) rfl (dM rfl rfl (aH ?_)))))
 exact ⟨(j + 1, _, sv', V'), aL rfl (aL rfl (aL rfl (aL rfl (bG _)))), ⟨hs, by
  show Rows 16 (RRec V') (al.take (j + 1)) _
  rw [List.take_succ, List.getElem?_eq_getElem hjl]
  exact Rows.snoc (hrows.mono fun _ _ h => h.mono hle') hRR hRR.flat.2, by simp only; omega⟩, by simp only; omega⟩
 refine eT (aF ?_)
 have hjn : j = al.length := by omega
 subst hjn
 rw [List.take_length] at hrows
 obtain ⟨V', hle', hsv, hs⟩ := hsl.give
 refine aB (dM rfl rfl (dN rfl rfl (aH (aV ⟨_, fW rfl, ?_⟩))))
 exact ⟨V', hs, _, hsv, hrows.mono fun _ _ h => h.mono hle'⟩
end
end Go.Proofs.YtgpfjlfkaoffeaaGreatDoor
namespace Go.Proofs.YtgpfjlfkaoffeaaGreatDoor
open Go
section
variable {A : Nat → Addr} {V : Vw} {w0 : World}
theorem c_faultOf (hG : Gl A V) (hV : V.In w0) {e : Value} {k : EK} (he : ErrV A e k) : eC Tryz.prog 36 #[e] w0 fun v w' => v = .int .i64 (k.num : Nat) ∧ St ⟨w0, V, V⟩ w' [] := by
 have hs := St.start hV
 refine aT [_] Tryz.func36 Tryz.ntmps36 Tryz.results36 rfl rfl (dP (dN rfl rfl (aH (aF (dP (dM rfl rfl (aH (bQ (dP (lp (po_err_eq_nil he rfl) rfl (dN rfl rfl (aH (bH rfl (fun hc0 => ?_) (fun hc0 => ?_))))))))))))))
 refine dP (dN rfl rfl (aH (aV ⟨_, fW rfl, ?_⟩)))
 subst hc0
 exact ⟨rfl, hs⟩
 refine dP (lp (aO rfl (bR k_57 (hG.ld hs.isIn (g := 4) rfl))) rfl (lp (po_err_eq_g (.inl ⟨rfl, rfl⟩) hG hs.isIn he rfl rfl) rfl (dN rfl rfl (aH (bH rfl (fun hc1 => ?_) (fun hc1 => ?_))))))
 refine dP (dN rfl rfl (aH (aV ⟨_, fW rfl, ?_⟩)))
 subst hc1
 exact ⟨rfl, hs⟩
 refine dP (lp (aO rfl (bR k_57 (hG.ld hs.isIn (g := 5) rfl))) rfl (lp (po_err_eq_g (.inr ⟨rfl, rfl⟩) hG hs.isIn he rfl rfl) rfl (dN rfl rfl (aH (bH rfl (fun hc2 => ?_) (fun hc2 => ?_))))))
 refine dP (dN rfl rfl (aH (aV ⟨_, fW rfl, ?_⟩)))
 subst hc2
 exact ⟨rfl, hs⟩
 refine aW (dP (dN rfl rfl (aH (aV ⟨_, fW rfl, ?_⟩))))
 have hk : k = .other := by cases k <;> first | rfl | exact absurd rfl hc0 | exact absurd rfl hc1 | exact absurd rfl hc2
 subst hk
 exact ⟨rfl, hs⟩
theorem c_headOf (hV : V.In w0) (id bits : Nat) : eC Tryz.prog 18 #[.agg (headC id bits).toArray] w0 fun v w' => v = .agg (headC id bits).toArray ∧ St ⟨w0, V, V⟩ w' [] := by
 have hs := St.start hV
 refine aT [_] Tryz.func18 Tryz.ntmps18 Tryz.results18 rfl rfl (dP (aJ (cR hs rfl rfl rfl (fun b1 w hb1 hbe1 hs => aJ (aX hs z_33 rfl (fun b2 w hb2 he2 hs => aH (dP (lp (aR fo_50_0 rfl) rfl (lp (aO rfl (aQ eS (hs.g 1 rfl) rfl)) rfl (lp (aR fo_50_1 rfl) rfl (lp (aO rfl (aQ k_4 (hs.g 1 rfl) rfl)) rfl (lp (aR fo_50_2 rfl) rfl (lp (aO rfl (aQ k_47 (hs.g 1 rfl) rfl)) rfl (lp (aR fo_50_3 rfl) rfl (lp (aO rfl (aQ k_4 (hs.g 1 rfl) rfl)) rfl ?_)))))))))))))))
 refine lp (aR fo_50_4 rfl) rfl (lp (aO rfl (aQ k_4 (hs.g 1 rfl) rfl)) rfl (lp (aR fo_50_5 rfl) rfl (lp (aO rfl (aQ k_4 (hs.g 1 rfl) rfl)) rfl (lp (aR fo_50_6 rfl) rfl (lp (aO rfl (aQ k_4 (hs.g 1 rfl) rfl)) rfl (lp (aR fo_50_7 rfl) rfl (lp (aO rfl (aQ k_4 (hs.g 1 rfl) rfl)) rfl (lp (aR fo_50_8 rfl) rfl (lp (aO rfl (aQ k_4 (hs.g 1 rfl) rfl)) rfl (lp (aR fo_50_9 rfl) rfl (lp (aO rfl (aQ k_48 (hs.g 1 rfl) rfl)) rfl (lp (bL rfl (by rfl) (bu_33_0_1_2_3_4_5_6_7_8_9 _ _ _ _ _ _ _ _ _ _)) rfl (aJ (dR 0 hs bZ rfl rfl rfl (by simp) (by simp) (aG rfl) rfl (fun w hs => ?_)))))))))))))))
 refine aH (aV ⟨_, fW ⟨_, rfl, aP bZ (hs.g 0 rfl) rfl⟩, ?_⟩)
 exact ⟨rfl, (hs.drop hb2).drop hb1⟩
theorem RSeen.fault (V : Vw) (k : EK) : RSeen V { fault := k.num } (.int .i64 (k.num : Nat) :: (headC 0 0 ++ [.slice none 0 0, .slice none 0 0])) := ⟨_, _, rfl, RAsks.nil V, RRecs.nil V⟩
end
end Go.Proofs.YtgpfjlfkaoffeaaGreatDoor
namespace Go.Proofs.YtgpfjlfkaoffeaaGreatDoor
open Go
section
variable {l : List UInt8} {m m' : PM} {k : EK} {s : Nat}
theorem allAsks_len {f : Nat} {acc al : List PAsk} (h : fQ l f m acc = (k, al, m')) : al.length ≤ acc.length + f := by
 induction f generalizing m acc with
 | zero => cases h; exact Nat.le_refl _
 | succ f ih =>
  unfold fQ at h
  split at h
  have := ih h; simp at this; omega
  cases h; exact Nat.zero_le _
  cases h; omega
  cases h; exact Nat.zero_le _
theorem allRecs_len {f : Nat} {acc al : List fY} (h : eR l s f m acc = (k, al, m')) : al.length ≤ acc.length + f := by
 induction f generalizing m acc with
 | zero => cases h; exact Nat.le_refl _
 | succ f ih =>
  unfold eR at h
  split at h
  have := ih h; simp at this; omega
  cases h; exact Nat.zero_le _
  cases h; omega
  cases h; exact Nat.zero_le _
end
end Go.Proofs.YtgpfjlfkaoffeaaGreatDoor
namespace Go.Proofs.YtgpfjlfkaoffeaaGreatDoor
open Go
end Go.Proofs.YtgpfjlfkaoffeaaGreatDoor
namespace Go.Proofs.YtgpfjlfkaoffeaaGreatDoor
open Go
section
variable {l : List UInt8} {m k : PM} {st : Int}
theorem PR.len {mv : Value} {cs : List Value} (h : PR l mv m cs) (hb : mv.oneCell' = true) : cs.length = 14 ∧ Flat cs := by
 obtain ⟨m0, x1, x2, x3, x4, x5, x6, rfl, ⟨h1, _⟩, _⟩ := h
 refine ⟨rfl, aG ?_⟩
 have : m0.oneCell' = true := by rcases h1 with rfl | rfl <;> first | exact hb | rfl
 unfold parC
 simp only [List.all_cons, List.all_nil, this]
 rfl
theorem PR.zero (l : List UInt8) (mv : Value) : PR l mv {} (parC (.slice none 0 0) 0 0 0 0 0 0 {}) := ⟨_, _, _, _, _, _, _, rfl, ⟨.inr rfl, by decide, by decide, by decide⟩, fun h => absurd h (by decide)⟩
end
end Go.Proofs.YtgpfjlfkaoffeaaGreatDoor

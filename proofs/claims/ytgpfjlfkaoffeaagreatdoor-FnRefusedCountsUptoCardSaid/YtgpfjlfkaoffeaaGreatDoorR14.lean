/- Packing: numbers, bytes, texts. -/
import Derived.Test.YtgpfjlfkaoffeaaGreatDoorR07
import Derived.Test.YtgpfjlfkaoffeaaGreatDoorR09
set_option linter.all false
namespace Go.Proofs.YtgpfjlfkaoffeaaGreatDoor
open Go
section
variable {A : Nat → Addr} {V V0 : Vw} {w w00 : World} {L : List (Nat × Obj)} {msg : Value} {m : Nat} {out : List UInt8}
theorem fI (hs : Sl 5 1 ⟨w00, V0, V⟩ w L msg m (out.map eA)) (hm : m ≤ 1099511627776) (x : Nat) (hx : x < 65536) :
  eC Tryz.prog 143 #[msg, .int .u16 x] w fun v w' => Sl 5 1 ⟨w00, V0, V⟩ w' L v (m + 2) ((out ++ be2 x).map eA) := by
 refine aT [_, _] Tryz.func143 Tryz.ntmps143 Tryz.results143 rfl rfl (dP (dN rfl rfl (aH (dP (dM rfl rfl (dM rfl rfl (lp (po_shr (c := (x / 256 : Nat)) rfl rfl (by decide) (u16sh (k := 8) (n := x))) rfl (lp (bY Tryz.underlying22 Tryz.underlying5 rfl (u16hi hx)) rfl (dM rfl rfl (lp (bY Tryz.underlying22 Tryz.underlying5 rfl u8lo) rfl (l_appB (be2 x) el_23 hs (fun _ => rfl) rfl rfl rfl (by decide) (by decide) (by omega) (by omega) rfl rfl (fun b11 v12 w hs => ?_))))))))))))
 skip
 refine dN rfl rfl (aH (aV ⟨_, fW rfl, ?_⟩))
 exact hs
theorem p_packType (hs : Sl 5 1 ⟨w00, V0, V⟩ w L msg m (out.map eA)) (hm : m ≤ 1099511627776) (x : Nat) (hx : x < 65536) :
  eC Tryz.prog 145 #[msg, .int .u16 x] w fun v w' => Sl 5 1 ⟨w00, V0, V⟩ w' L v (m + 2) ((out ++ be2 x).map eA) := by
 refine aT [_, _] Tryz.func145 Tryz.ntmps145 Tryz.results145 rfl rfl (dP (dN rfl rfl (aH (dP (dM rfl rfl (dM rfl rfl (aZ ok_143 rfl rfl (fI hs hm x hx) rfl (fun v7 w HF => ?_))))))))
 obtain _ := HF
 replace hs := HF
 refine dN rfl rfl (aH (aV ⟨_, fW rfl, ?_⟩))
 exact hs
theorem p_packClass (hs : Sl 5 1 ⟨w00, V0, V⟩ w L msg m (out.map eA)) (hm : m ≤ 1099511627776) (x : Nat) (hx : x < 65536) :
  eC Tryz.prog 146 #[msg, .int .u16 x] w fun v w' => Sl 5 1 ⟨w00, V0, V⟩ w' L v (m + 2) ((out ++ be2 x).map eA) := by
 refine aT [_, _] Tryz.func146 Tryz.ntmps146 Tryz.results146 rfl rfl (dP (dN rfl rfl (aH (dP (dM rfl rfl (dM rfl rfl (aZ ok_143 rfl rfl (fI hs hm x hx) rfl (fun v7 w HF => ?_))))))))
 obtain _ := HF
 replace hs := HF
 refine dN rfl rfl (aH (aV ⟨_, fW rfl, ?_⟩))
 exact hs
theorem p_packUint32 (hs : Sl 5 1 ⟨w00, V0, V⟩ w L msg m (out.map eA)) (hm : m ≤ 1099511627776) (x : Nat) :
  eC Tryz.prog 187 #[msg, .int .u32 x] w fun v w' => Sl 5 1 ⟨w00, V0, V⟩ w' L v (m + 4) ((out ++ be4 x).map eA) := by
 refine aT [_, _] Tryz.func187 Tryz.ntmps187 Tryz.results187 rfl rfl (dP (dN rfl rfl (aH (dP (dM rfl rfl (dM rfl rfl (lp (po_shr (c := (x / 16777216 : Nat)) rfl rfl (by decide) (u32sh (k := 24) (n := x))) rfl (lp (bY Tryz.underlying27 Tryz.underlying5 rfl u8lo) rfl (dM rfl rfl (lp (po_shr (c := (x / 65536 : Nat)) rfl rfl (by decide) (u32sh (k := 16) (n := x))) rfl (lp (bY Tryz.underlying27 Tryz.underlying5 rfl u8lo) rfl (dM rfl rfl (lp (po_shr (c := (x / 256 : Nat)) rfl rfl (by decide) (u32sh (k := 8) (n := x))) rfl ?_)))))))))))))
 refine lp (bY Tryz.underlying27 Tryz.underlying5 rfl u8lo) rfl (dM rfl rfl (lp (bY Tryz.underlying27 Tryz.underlying5 rfl u8lo) rfl (l_appB (be4 x) el_23 hs (fun _ => rfl) rfl rfl rfl (by decide) (by decide) (by omega) (by omega) rfl rfl (fun b11 v12 w hs => ?_))))
 skip
 refine dN rfl rfl (aH (aV ⟨_, fW rfl, ?_⟩))
 exact hs
theorem p_packBytes {fv : Value} {l : List UInt8} (hs : Sl 5 1 ⟨w00, V0, V⟩ w L msg m (out.map eA)) (hm : m ≤ 1099511627776) (hf : Src Tryz.prog w 1 fv l.length (l.map eA)) (hl : l.length ≤ 1099511627776) :
  eC Tryz.prog 226 #[msg, fv] w fun v w' => Sl 5 1 ⟨w00, V0, V⟩ w' L v (m + l.length) ((out ++ l).map eA) := by
 refine aT [_, _] Tryz.func226 Tryz.ntmps226 Tryz.results226 rfl rfl (dP (dN rfl rfl (aH (dP (dM rfl rfl (dM rfl rfl (aJ (fA (k := l.length) (news := l.map eA) el_23 (.inr ⟨_, Tryz.underlying23⟩) hs rfl rfl hf (dH _) (by omega) (by omega) rfl (fun v7 w hs => dN rfl rfl (aH (aV ⟨_, fW rfl, ?_⟩)))))))))))
 rw [List.map_append]
 exact hs
end
end Go.Proofs.YtgpfjlfkaoffeaaGreatDoor

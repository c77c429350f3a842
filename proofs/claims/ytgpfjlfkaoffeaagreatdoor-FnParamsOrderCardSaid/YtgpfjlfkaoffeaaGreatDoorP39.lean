/- Packing: a message packed. Two parameters packed and read: what FnParamsOrder tells, in plain lists. FnParamsOrder in plain lists: refused if the second key is 0, else read as it was given. The message of FnParamsOrder is one that may be packed. The law's guard packs(), for the packing laws. The law FnParamsOrder. What the row's list gives: the package's variables as the walks want them; what the walks leave, for the row. The map that is laid. -/
import Derived.Test.YtgpfjlfkaoffeaaGreatDoorP38
import Derived.Test.YtgpfjlfkaoffeaaGreatDoorP09
import Derived.Test.YtgpfjlfkaoffeaaGreatDoorP20
import Derived.Test.YtgpfjlfkaoffeaaGreatDoorP36
import Derived.Test.YtgpfjlfkaoffeaaGreatDoorP13
import Derived.Carry
import Derived.OpenVars
import Derived.LaidLaws
import Derived.LaidSub
import GoSem.ClaimJoined
import Derived.WideKeyElems2
set_option linter.all false
namespace Go.Proofs.YtgpfjlfkaoffeaaGreatDoor
open Go
section
variable {A : Nat → Addr} {V V0 : Vw} {w w00 : World} {L : List (Nat × Obj)} {bx bq ba bu bd ca cu cd cq : Nat} {m : PMess} {rsA rsU rsD : List Value} {E : TypeId}
set_option maxHeartbeats 2000000 in
theorem p_MPack (hG : Gl A V) (hs : St ⟨w00, V0, V⟩ w ((ba, .cells rsA.toArray E (0, 0)) :: (bu, .cells rsU.toArray E (0, 0)) :: (bd, .cells rsD.toArray E (0, 0)) :: L)) 
  (hMsg : CellsW ⟨w00, V0, V⟩ L bx 0 (msgV m bq cq ba ca bu cu bd cd))
  (hQ : ∀ i (h : i < m.asks.length), CellsW ⟨w00, V0, V⟩ L bq (i * 258) (askV m.asks[i]))
  (hA : Sec V rsA m.answers) (hU : Sec V rsU m.authorities) (hD : Sec V rsD m.additionals) (hm : MOk m) :
  CallsV Tryz.prog 15 #[.pointer (some ⟨bx, 0, none⟩)] w fun v w' => ∃ (mv e : Value) (k : EK) (rsA' rsU' rsD' : List Value), v = .tuple #[mv, e] ∧ ErrV A e k ∧
   ((∃ o, k = .ok ∧ packM m = some o ∧ Sl 5 1 ⟨w00, V0, V⟩ w' ((ba, .cells rsA'.toArray E (0, 0)) :: (bu, .cells rsU'.toArray E (0, 0)) :: (bd, .cells rsD'.toArray E (0, 0)) :: L) mv o.length (o.map byteVal)) ∨
    (k = .other ∧ packM m = none ∧ St ⟨w00, V0, V⟩ w' ((ba, .cells rsA'.toArray E (0, 0)) :: (bu, .cells rsU'.toArray E (0, 0)) :: (bd, .cells rsD'.toArray E (0, 0)) :: L))) := by
 refine aT [_] Tryz.func15 Tryz.ntmps15 Tryz.results15 rfl rfl (dP (dN rfl rfl (dN rfl rfl (aH (dP (dM rfl rfl (aJ (o_make (c := 512) (l := 0) el_23 hs rfl rfl rfl rfl (by decide) (by decide) (by decide) rfl (fun b5 w hb5 he5 hs => ?_)))))))))
 rw [made_one] at hs
 have hsl : Sl 5 1 ⟨w00, V0, V⟩ w ((ba, .cells rsA.toArray E (0, 0)) :: (bu, .cells rsU.toArray E (0, 0)) :: (bd, .cells rsD.toArray E (0, 0)) :: L) (.slice (some ⟨b5, 0, none⟩) ([] : List UInt8).length 512) ([] : List UInt8).length (([] : List UInt8).map byteVal) := ⟨rfl, .inr ⟨b5, 512, _, rfl, (by rw [List.map_nil, List.nil_append, List.length_cons, List.length_replicate]), Nat.zero_le _, by decide, hb5, hs⟩⟩
 refine aZ ok_34 rfl rfl (p_appendPack hG hsl (by simp) hMsg (fun i hi => ⟨hQ i hi, (hm.ask _ (List.getElem_mem hi)).2⟩) hA hU hD hm.nq hm.na hm.nu hm.nd hm.id hm.op hm.code) rfl (fun v6 w HF => ?_)
 obtain ⟨mv, e, k, rA, rU, rD, rfl, he, hr⟩ := HF
 refine dO rfl rfl rfl (dO rfl rfl rfl (dN rfl rfl (dN rfl rfl (aH (aV ⟨_, res2 rfl rfl, ⟨mv, e, k, rA, rU, rD, rfl, he, ?_⟩⟩)))))
 rcases hr with ⟨o, h1, h2, h3⟩ | h3
 exact .inl ⟨o, h1, h2, by simpa using h3⟩
 exact .inr h3
end
section
variable {A : Nat → Addr} {V : Vw} {w0 : World} {m : PMess} {va v1 v2 v3 : Value}
set_option maxHeartbeats 4000000 in
theorem p_Pack (hG : Gl A V) (hV : V.In w0) (hQ : RAsks V va m.asks) (hA : RRecs V v1 m.answers) (hU : RRecs V v2 m.authorities) (hD : RRecs V v3 m.additionals) (hm : MOk m) :
  CallsV Tryz.prog 6 #[.agg (headV m.head ++ [va, v1, v2, v3]).toArray] w0 fun v w' => ∃ (V' : Vw) (x : Value) (ok : Bool) (o : List UInt8), v = .tuple #[x, .bool ok] ∧ St ⟨w0, V, V'⟩ w' [] ∧ RB V' x o ∧
   ((ok = true ∧ packM m = some o) ∨ (ok = false ∧ o = [] ∧ packM m = none)) := by
 obtain ⟨a1, c1, rfl⟩ := hA.form
 obtain ⟨a2, c2, rfl⟩ := hU.form
 obtain ⟨a3, c3, rfl⟩ := hD.form
 obtain ⟨a, cap, rfl⟩ : ∃ a c, va = .slice a m.asks.length c := by
  obtain ⟨xs, hS, _⟩ := hQ
  obtain ⟨a, c, h1, _⟩ := hS.form
  exact ⟨a, c, h1⟩
 have hs := St.start hV
 refine aT [_] Tryz.func6 Tryz.ntmps6 Tryz.results6 rfl rfl (dP (aJ (cR hs rfl rfl rfl (fun b1 w hb1 hbe1 hs => dN rfl rfl (dN rfl rfl (aH (dP (lp (aO rfl (aP k_36 (hs.g 0 rfl) rfl)) rfl (aZ ok_14 rfl rfl (p_messageOf hs.isIn hQ hA hU hD hm) rfl (fun v8 w HF => ?_))))))))))
 obtain ⟨V1, bq, cq, ba, ca, bu, cu, bd, cd, rsA, rsU, rsD, rfl, hcq, hsA, hsU, hsD, hba, hbu, hbd, hc⟩ := HF
 have hbA := Nat.le_trans hs.size hba
 have hbU := Nat.le_trans hs.size hbu
 have hbD := Nat.le_trans hs.size hbd
 have hle1 := hc.view
 replace hs := hs.frameL hc (fun x hx => by simp at hx; rcases hx with rfl | rfl | rfl <;> assumption)
 refine aJ (aX hs z_54 rfl (fun b4 w hb4 he4 hs => aJ (dR 0 hs k_54 rfl rfl rfl rfl rfl (aG rfl) rfl (fun w hs => ?_))))
 obtain ⟨V2, hle2, hv4, hs⟩ := St.give hs hb4
 refine aH (dP (aZ ok_15 rfl rfl (p_MPack (hG.mono hs.view) (hs.perm perm3) (CellsW.view (fun j u hu => by rw [Nat.zero_add]; exact Vw.cell_of hv4 hu)) (fun i hi => CellsW.view (fun j u hu => Vw.cell_le hle2 (hcq i hi j u hu))) (hsA.mono hle2) (hsU.mono hle2) (hsD.mono hle2) hm) rfl (fun v10 w HF => ?_)))
 obtain ⟨mv, e, k, rA, rU, rD, rfl, he, hr⟩ := HF
 refine dM rfl rfl (dO rfl rfl rfl (dO rfl rfl rfl (dN rfl rfl (dN rfl rfl (aH (aF (dP (dM rfl rfl (lp (bB he rfl) rfl (aH (bH rfl (fun hc0 => ?_) (fun hc0 => ?_))))))))))))
 obtain ⟨_, hno, hs⟩ := hr.resolve_left (fun ⟨_, h, _⟩ => hc0 h)
 refine dP (aJ (o_bslice0 es_23 hs rfl (fun b15 w hb15 he15 hs => dN rfl rfl (dN rfl rfl (aH (aV ⟨_, res2 rfl rfl, ?_⟩))))))
 exact ⟨V2, _, false, [], rfl, ((((hs.drop hb15).drop hbA).drop hbU).drop hbD).drop hb1, ⟨rfl, .inr ⟨b15, 0, 0, rfl, Nat.le_refl _, fun j u hu => by simp at hu⟩⟩, .inr ⟨rfl, rfl, hno⟩⟩
 obtain ⟨o, _, hsome, hs⟩ := hr.resolve_right (fun h => hc0 (by rw [h.1]; decide))
 refine aW (dP (dM rfl rfl (dN rfl rfl (dN rfl rfl (aH (aV ⟨_, res2 rfl rfl, ?_⟩))))))
 obtain ⟨V3, hle3, hsv, hs⟩ := hs.give
 exact ⟨V3, mv, true, o, rfl, (((hs.drop hbA).drop hbU).drop hbD).drop hb1, hsv, .inl ⟨rfl, hsome⟩⟩
end
end Go.Proofs.YtgpfjlfkaoffeaaGreatDoor
namespace Go.Proofs.YtgpfjlfkaoffeaaGreatDoor
open Go
set_option maxRecDepth 4000
def parB (ty a b c d : UInt8) : List UInt8 := [0, 0, 0, 0, 0, 0, 0, 1, 0, 0, 0, 0, 1, 97, 0, 0, ty, 0, 1, 0, 0, 0, 0, 0, 13, 0, 0, 1, 98, 0, a, b, 0, 0, c, d, 0, 0]
def parR (k f s : Nat) : PRec := { name := [97, 46], cls := 1, kind := k, host := [98, 46], pairs := [⟨f, []⟩, ⟨s, []⟩] }
theorem pack_par0 (k f : Nat) (hk : k = 11 ∨ k = 12) : packM { answers := [parR k f 0] } = none := by
  rcases hk with rfl | rfl <;> kernel_rfl
theorem pack_par11 (f s : Nat) : packM { answers := [parR 11 f (s + 1)] } = some (parB 64 (UInt8.ofNat (f / 256)) (UInt8.ofNat f) (UInt8.ofNat ((s + 1) / 256)) (UInt8.ofNat (s + 1))) := by
  kernel_rfl
theorem pack_par12 (f s : Nat) : packM { answers := [parR 12 f (s + 1)] } = some (parB 65 (UInt8.ofNat (f / 256)) (UInt8.ofNat f) (UInt8.ofNat ((s + 1) / 256)) (UInt8.ofNat (s + 1))) := by
  kernel_rfl
def parO (k ty : Nat) (a b c d : UInt8) : PRec :=
  { name := [97, 46], type := ty, cls := 1, length := 13, kind := k, host := [98, 46], pairs := [⟨a.toNat * 256 + b.toNat, []⟩, ⟨c.toNat * 256 + d.toNat, []⟩] }
theorem pars_par (ty a b c d : UInt8) (h : c.toNat * 256 + d.toNat ≠ 0) : parsS (parB ty a b c d) 30 38 [] = some [⟨a.toNat * 256 + b.toNat, []⟩, ⟨c.toNat * 256 + d.toNat, []⟩] := by
  have hl : (parB ty a b c d).length = 38 := rfl
  have e1 : w16 (parB ty a b c d) 32 = 0 := rfl
  have e2 : w16 (parB ty a b c d) 36 = 0 := rfl
  have e3 : w16 (parB ty a b c d) 34 = c.toNat * 256 + d.toNat := rfl
  have e4 : w16 (parB ty a b c d) 30 = a.toNat * 256 + b.toNat := rfl
  rw [parsS, dif_pos (by decide), if_pos ⟨by omega, by rw [e1]; omega, fun h => h.1 rfl⟩, e1, e4]
  show parsS _ 34 38 [_] = _
  rw [parsS, dif_pos (by decide), if_pos ⟨by omega, by rw [e2]; omega, fun h2 => h (by rw [← e3]; exact h2.2)⟩, e2, e3]
  show parsS _ 38 38 [_, _] = _
  rw [parsS, dif_neg (by decide), if_pos rfl]
  rfl
theorem body_par (k : Nat) (hk : k = 11 ∨ k = 12) (ty a b c d : UInt8) (h : c.toNat * 256 + d.toNat ≠ 0) :
    body (parB ty a b c d) 25 k 13 = some { kind := k, host := [98, 46], pairs := [⟨a.toNat * 256 + b.toNat, []⟩, ⟨c.toNat * 256 + d.toNat, []⟩] } := by
  have h1 : rd16 (parB ty a b c d) 25 = some 0 := rfl
  have h2 : name (parB ty a b c d) 27 = some ([98, 46], 30) := by kernel_rfl
  have h3 := pars_par ty a b c d h
  rcases hk with rfl | rfl
  · show ((rd16 (parB ty a b c d) 25).bind fun n1 => (name (parB ty a b c d) (25 + 2)).bind fun h => (parsS (parB ty a b c d) h.2 (25 + 13) []).map fun l => ({ kind := 11, n1 := n1, host := h.1, pairs := l } : PRec)) = _
    rw [h1, Option.bind_some, h2, Option.bind_some]
    show (parsS _ 30 38 []).map _ = _
    rw [h3]; rfl
  · show ((rd16 (parB ty a b c d) 25).bind fun n1 => (name (parB ty a b c d) (25 + 2)).bind fun h => (parsS (parB ty a b c d) h.2 (25 + 13) []).map fun l => ({ kind := 12, n1 := n1, host := h.1, pairs := l } : PRec)) = _
    rw [h1, Option.bind_some, h2, Option.bind_some]
    show (parsS _ 30 38 []).map _ = _
    rw [h3]; rfl
theorem rec_par (k : Nat) (ty a b c d : UInt8) (hk : (k = 11 ∧ ty = 64) ∨ (k = 12 ∧ ty = 65)) (h : c.toNat * 256 + d.toNat ≠ 0) :
    recordM (parB ty a b c d) { sec := 2, at_ := 12 } 2 = (.ok, some (parO k ty.toNat a b c d), { sec := 2, at_ := 38, index := 1, headAt := 12, htype := ty.toNat, hlen := 13 }) := by
  have hb : beginM (parB ty a b c d) { sec := 2, at_ := 12 } 2 = (.ok, some { name := [97, 46], type := ty.toNat, cls := 1, length := 13 }, { sec := 2, at_ := 25, valid := true, headAt := 12, htype := ty.toNat, hlen := 13 }) := by
    rcases hk with ⟨_, rfl⟩ | ⟨_, rfl⟩ <;> kernel_rfl
  have h2 : body (parB ty a b c d) 25 (kindOfType ty.toNat) 13 = some { kind := k, host := [98, 46], pairs := [⟨a.toNat * 256 + b.toNat, []⟩, ⟨c.toNat * 256 + d.toNat, []⟩] } := by
    rcases hk with ⟨rfl, rfl⟩ | ⟨rfl, rfl⟩
    · exact body_par 11 (.inl rfl) _ a b c d h
    · exact body_par 12 (.inr rfl) _ a b c d h
  unfold recordM
  rw [hb]
  simp only
  rw [h2]
  rfl
theorem unpack_par (k : Nat) (ty a b c d : UInt8) (hk : (k = 11 ∧ ty = 64) ∨ (k = 12 ∧ ty = 65)) (h : c.toNat * 256 + d.toNat ≠ 0) :
    unpackM (parB ty a b c d) = some { answers := [parO k ty.toNat a b c d] } := by
  have hl : (parB ty a b c d).length = 38 := rfl
  have h0 : askM (parB ty a b c d) { sec := 1, at_ := 12 } = (.done, none, { sec := 2, at_ := 12 }) := by kernel_rfl
  have h1 := rec_par k ty a b c d hk h
  have h2 : recordM (parB ty a b c d) { sec := 2, at_ := 38, index := 1, headAt := 12, htype := ty.toNat, hlen := 13 } 2 = (.done, none, { sec := 3, at_ := 38, headAt := 12, htype := ty.toNat, hlen := 13 }) := by kernel_rfl
  have h3 : recordM (parB ty a b c d) { sec := 3, at_ := 38, headAt := 12, htype := ty.toNat, hlen := 13 } 3 = (.done, none, { sec := 4, at_ := 38, headAt := 12, htype := ty.toNat, hlen := 13 }) := by kernel_rfl
  have h4 : recordM (parB ty a b c d) { sec := 4, at_ := 38, headAt := 12, htype := ty.toNat, hlen := 13 } 4 = (.done, none, { sec := 5, at_ := 38, headAt := 12, htype := ty.toNat, hlen := 13 }) := by kernel_rfl
  have a0 : allAsks (parB ty a b c d) fuel { sec := 1, at_ := 12 } [] = (.ok, [], { sec := 2, at_ := 12 }) := by
    show allAsks _ (65536 + 1) _ _ = _
    rw [allAsks, h0]
  have a1 : allRecs (parB ty a b c d) 2 fuel { sec := 2, at_ := 12 } [] = (.ok, [parO k ty.toNat a b c d], { sec := 3, at_ := 38, headAt := 12, htype := ty.toNat, hlen := 13 }) := by
    show allRecs _ _ (65536 + 1) _ _ = _
    rw [allRecs, h1]
    show allRecs _ _ (65535 + 1) _ _ = _
    rw [allRecs, h2]
    rfl
  have a2 : allRecs (parB ty a b c d) 3 fuel { sec := 3, at_ := 38, headAt := 12, htype := ty.toNat, hlen := 13 } [] = (.ok, [], { sec := 4, at_ := 38, headAt := 12, htype := ty.toNat, hlen := 13 }) := by
    show allRecs _ _ (65536 + 1) _ _ = _
    rw [allRecs, h3]
  have a3 : allRecs (parB ty a b c d) 4 fuel { sec := 4, at_ := 38, headAt := 12, htype := ty.toNat, hlen := 13 } [] = (.ok, [], { sec := 5, at_ := 38, headAt := 12, htype := ty.toNat, hlen := 13 }) := by
    show allRecs _ _ (65536 + 1) _ _ = _
    rw [allRecs, h4]
  rw [unpackM_eq]
  unfold unpackN
  rw [if_neg (by rw [hl]; decide), a0]
  simp only
  rw [a1]
  simp only
  rw [a2]
  simp only
  rw [a3]
  rfl
end Go.Proofs.YtgpfjlfkaoffeaaGreatDoor
namespace Go.Proofs.YtgpfjlfkaoffeaaGreatDoor
open Go
theorem key_be {n : Nat} (h : n < 65536) : (UInt8.ofNat (n / 256)).toNat * 256 + (UInt8.ofNat n).toNat = n := by
  rw [UInt8.toNat_ofNat', UInt8.toNat_ofNat']; omega
theorem par_law {k f s : Nat} (hk : k = 11 ∨ k = 12) (hf : f < 65536) (hs : s < 65536) :
    (s = 0 ∧ packM { answers := [parR k f s] } = none) ∨
    (s ≠ 0 ∧ ∃ (o : List UInt8) (ty : Nat), packM { answers := [parR k f s] } = some o ∧ o.length = 38 ∧
      unpackM o = some { answers := [{ name := [97, 46], type := ty, cls := 1, length := 13, kind := k, host := [98, 46], pairs := [⟨f, []⟩, ⟨s, []⟩] }] }) := by
  cases s with
  | zero => exact .inl ⟨rfl, pack_par0 k f hk⟩
  | succ s =>
    refine .inr ⟨by omega, ?_⟩
    have h1 := key_be hf
    have h2 := key_be hs
    rcases hk with rfl | rfl
    · refine ⟨_, 64, pack_par11 f s, rfl, ?_⟩
      have h := unpack_par 11 64 (UInt8.ofNat (f / 256)) (UInt8.ofNat f) (UInt8.ofNat ((s + 1) / 256)) (UInt8.ofNat (s + 1)) (.inl ⟨rfl, rfl⟩) (by omega)
      unfold parO at h
      rw [h1, h2] at h
      exact h
    · refine ⟨_, 65, pack_par12 f s, rfl, ?_⟩
      have h := unpack_par 12 65 (UInt8.ofNat (f / 256)) (UInt8.ofNat f) (UInt8.ofNat ((s + 1) / 256)) (UInt8.ofNat (s + 1)) (.inr ⟨rfl, rfl⟩) (by omega)
      unfold parO at h
      rw [h1, h2] at h
      exact h
end Go.Proofs.YtgpfjlfkaoffeaaGreatDoor
namespace Go.Proofs.YtgpfjlfkaoffeaaGreatDoor
open Go
theorem par_recOk {k f s : Nat} (hk : k = 11 ∨ k = 12) (hf : f < 65536) (hs : s < 65536) : RecOk (parR k f s) := by
 refine ⟨⟨by simp [parR], by simp [parR], by simp [parR], by simp [parR], by simp [parR], by simp [parR], ?_⟩, ⟨by simp [parR], by simp [parR, textsP], ?_, by simp [parR, pairsP, be2], ?_⟩, ?_, ?_, ?_, by simp [parR], by simp [parR]⟩
 intro p hp
 simp [parR] at hp
 rcases hp with rfl | rfl <;> simp
 intro t ht; simp [parR] at ht
 intro p hp
 simp [parR] at hp
 rcases hp with rfl | rfl <;> simp <;> assumption
 rcases hk with rfl | rfl <;> simp [parR]
 rcases hk with rfl | rfl <;> simp [parR]
 rcases hk with rfl | rfl <;> simp [parR, typeOfKind]
theorem par_mok {k f s : Nat} (hk : k = 11 ∨ k = 12) (hf : f < 65536) (hs : s < 65536) : MOk { answers := [parR k f s] } := by
 refine ⟨by simp, by simp, by simp, by simp, ?_, ?_, ?_, ?_, by simp, by simp, by simp⟩
 intro a ha; cases ha
 intro r hr; simp at hr; subst hr; exact par_recOk hk hf hs
 intro r hr; cases hr
 intro r hr; cases hr
end Go.Proofs.YtgpfjlfkaoffeaaGreatDoor
namespace Go.Proofs.YtgpfjlfkaoffeaaGreatDoor
open Go
def LawQ (V : Vw) (w0 : World) (v : Value) (w' : World) : Prop := v = .bool true ∧ ∃ V', St ⟨w0, V, V'⟩ w' []
def pk12 : List UInt8 := [0, 7, 0, 0, 0, 0, 0, 0, 0, 0, 0, 0]
theorem pack12 : packM { head := { id := 7 } } = some pk12 := by kernel_rfl
theorem unpack12 : unpackM pk12 = some { id := 7 } := by
 rw [unpackM_eq]; kernel_rfl
theorem parse12 : (parseM pk12 [1]).length = 1 := by
 kernel_rfl
theorem mok7 : MOk { head := { id := 7 } } :=
 ⟨Nat.zero_le _, Nat.zero_le _, Nat.zero_le _, Nat.zero_le _, (fun _ h => by cases h), (fun _ h => by cases h), (fun _ h => by cases h), (fun _ h => by cases h), (by decide), (by decide), (by decide)⟩
section
variable {A : Nat → Addr} {V : Vw} {w0 : World}
set_option maxHeartbeats 2000000 in
theorem c_packs (hG : Gl A V) (hV : V.In w0) : CallsV Tryz.prog 7 #[] w0 fun v w' => v = .bool true ∧ ∃ V', St ⟨w0, V, V'⟩ w' [] := by
 have hs := St.start hV
 have hg : true = true := rfl
 refine aT [] Tryz.func7 Tryz.ntmps7 Tryz.results7 rfl rfl (dP (dN rfl rfl (aH (dP (lp (bL rfl (by rfl) (bu_33_0 _)) rfl (lp (po_buildL (cls := [headV { id := 7 }]) rfl rfl (bg_36_0 _ _ _ _ _ _ _ _ _ _)) rfl (aZ ok_6 rfl rfl (p_Pack (m := { head := { id := 7 } }) (hG.mono hs.view) hs.isIn (RAsks.nil _) (RRecs.nil _) (RRecs.nil _) (RRecs.nil _) mok7) rfl (fun v8 w HF => ?_))))))))
 obtain ⟨V1, x, ok0, o, rfl, hc, hx, hr⟩ := HF
 replace hs := hs.frame hc
 obtain ⟨rfl, rfl⟩ : ok0 = true ∧ o = pk12 := by
  rcases hr with ⟨h1, h2⟩ | ⟨_, _, h2⟩
  rw [pack12] at h2; cases h2; exact ⟨h1, rfl⟩
  rw [pack12] at h2; cases h2
 refine dM rfl rfl (dO rfl rfl rfl (dO rfl rfl rfl (dN rfl rfl (dN rfl rfl (aH (dP (dM rfl rfl (aZ ok_8 rfl rfl (c_unpack (hG.mono hs.view) hs.isIn hx (by decide)) rfl (fun v13 w HF => ?_)))))))))
 obtain ⟨V2, mcs, ok, y, rfl, hc, hRM, hun⟩ := HF
 replace hs := hs.frame hc
 have hle2 := hc.view
 obtain ⟨rfl, rfl⟩ : ok = true ∧ y = { id := 7 } := by
  rcases hun with ⟨h1, h2⟩ | ⟨_, h2, _⟩
  rw [unpack12] at h2; cases h2; exact ⟨h1, rfl⟩
  rw [unpack12] at h2; cases h2
 refine dM rfl rfl (dO rfl rfl rfl (dO rfl rfl rfl (aJ (aX hs z_36 rfl (fun b3 w hb3 he3 hs => aJ (dR 0 hs k_36 rfl rfl rfl hRM.flat.2 rfl hRM.flat.1 rfl (fun w hs => dN rfl rfl (aH (aF ?_)))))))))
 skip
 obtain ⟨q0, q1, q2, q3, rfl, _⟩ := hRM
 refine aB (dM rfl rfl (dM rfl rfl (lg rfl rfl hg (aC rfl) rfl (lp (bO rfl rfl rfl) rfl (dM rfl rfl (lg rfl rfl hg (aR fo_36_0 rfl) rfl (lg rfl rfl hg (aR cV rfl) rfl (lg rfl rfl hg (aO rfl (bR (v := .int .u16 7) k_22 (by rw [cell_list (hs.g 0 rfl)]; rfl))) rfl (lg rfl rfl hg (po_eqi rfl rfl) rfl (lp (bO rfl rfl rfl) rfl (dM rfl rfl (lg rfl rfl hg (aC rfl) rfl (cX rfl rfl hg (o_bslice (vls := [[.int .i64 1]]) el_62 hs rfl rfl rfl rfl (by simp) (by decide) (by decide) rfl (fun b28 w hb28 he28 hs => ?_)))))))))))))))
 obtain ⟨V3, hle3, hv28, hs⟩ := St.give hs hb28
 have hst : SlV V3 1 (.slice (some ⟨b28, 0, none⟩) 1 1) 1 (([1] : List Int).map fun i => .int .i64 i) := SlV.cells (sp := []) hv28 rfl (by decide)
 refine cX rfl rfl hg (cF (cD rfl rfl ok_16 (c_parse (hG.mono hs.view) hs.isIn (hx.mono (Vw.le_trans hle2 hle3)) (by decide) hst (by decide))) rfl (fun v29 w HF => ?_))
 obtain ⟨V4, hc, xs, hS, _⟩ := HF
 rw [parse12] at hS
 obtain ⟨a1, c1, rfl, _⟩ := hS.form
 replace hs := hs.frame hc
 refine lg rfl rfl hg (bC Tryz.underlying60 rfl) rfl (lg rfl rfl hg (po_eqi rfl rfl) rfl (lp (bO rfl rfl rfl) rfl (dN rfl rfl (aH (aV ⟨_, res1 rfl, ?_⟩)))))
 exact ⟨rfl, _, hs.drop hb3⟩
end
end Go.Proofs.YtgpfjlfkaoffeaaGreatDoor
namespace Go.Proofs.YtgpfjlfkaoffeaaGreatDoor
open Go
section
variable {A : Nat → Addr} {V : Vw} {w0 : World}
set_option maxHeartbeats 4000000 in
theorem c_FnParamsOrder (hG : Gl A V) (hV : V.In w0) {f s : Nat} {h : Bool} (hf : f < 65536) (hs2 : s < 65536) :
  CallsV Tryz.prog 3 #[.int .u16 f, .int .u16 s, .bool h] w0 (LawQ V w0) := by
 have hs := St.start hV
 have hg : true = true := rfl
 refine aT [_, _, _] Tryz.func3 Tryz.ntmps3 Tryz.results3 rfl rfl (dP (dN rfl rfl (aH (dP (dM rfl rfl (lp (bL rfl (by rfl) (bu_25_0 _)) rfl (dM rfl rfl (lp (bL rfl (by rfl) (bu_25_0 _)) rfl (aJ (o_bslice (vls := [[.int .u16 f, .slice none 0 0], [.int .u16 s, .slice none 0 0]]) el_26 hs rfl rfl rfl rfl (by simp) (by decide) (by decide) rfl (fun b16 w hb16 he16 hs => lp (bL rfl (by rfl) (bu_30_0_2_5_7_15 _ _ _ _ _)) rfl (aJ (o_bslice (vls := [recC (parR 11 f s) (.slice none 0 0) (.slice none 0 0) (.slice (some ⟨b16, 0, none⟩) 2 2)]) el_31 hs rfl rfl rfl rfl (by intro l hl; simp at hl; subst hl; rfl) (by decide) (by decide) rfl (fun b18 w hb18 he18 hs => ?_))))))))))))))
 replace hs : St ⟨w0, V, V⟩ w [(b18, .cells (recC (parR 11 f s) (.slice none 0 0) (.slice none 0 0) (.slice (some ⟨b16, 0, none⟩) 2 2)).toArray 30 (0, 0)), (b16, .cells [Value.int .u16 f, .slice none 0 0, .int .u16 s, .slice none 0 0].toArray 25 (0, 0))] := hs
 refine lp (bL rfl (by rfl) (bu_36_2 _)) rfl (aJ (aX hs z_36 rfl (fun b7 w hb7 he7 hs => aJ (dR 0 hs k_36 rfl rfl rfl (by simp) (by simp) (aG rfl) rfl (fun w hs => aH (dG (fun ρ w => ∃ k, (k = 11 ∨ k = 12) ∧ Sub (upd (upd (upd emp 7 (.pointer (some ⟨b7, 0, none⟩))) 1 (.int .u16 s)) 0 (.int .u16 f)) ρ ∧ St ⟨w0, V, V⟩ w [(b7, .cells (headV {} ++ [Value.slice none 0 0, .slice (some ⟨b18, 0, none⟩) 1 1, .slice none 0 0, .slice none 0 0]).toArray 36 (0, 0)), (b18, .cells (recC (parR k f s) (.slice none 0 0) (.slice none 0 0) (.slice (some ⟨b16, 0, none⟩) 2 2)).toArray 30 (0, 0)), (b16, .cells [Value.int .u16 f, .slice none 0 0, .int .u16 s, .slice none 0 0].toArray 25 (0, 0))]) ?_ ?_))))))
 refine dP (dM rfl rfl (aH (bJ rfl (fun hc0 => ?_) (fun hc0 => ?_))))
 refine aB (lp (aR fo_36_2 rfl) rfl (lp (aO rfl (aQ k_31 (hs.g 0 rfl) rfl)) rfl (lp (po_iaN 0 0 es_31 rfl rfl rfl (by decide) rfl) rfl (lp (aR fo_30_5 rfl) rfl (aJ (dQ 1 hs cH rfl rfl rfl rfl rfl rfl rfl (fun w hs => aH ?_)))))))
 exact ⟨12, .inr rfl, aL rfl (aL rfl (aL rfl (bG _))), hs⟩
 refine aW ?_
 exact ⟨11, .inl rfl, aL rfl (aL rfl (aL rfl (bG _))), hs⟩
 clear hs
 rintro ρ w ⟨k, hk, hsub, hs⟩
 refine EW.weaken hsub (aF ?_)
 obtain ⟨V1, hle1, hv16, hs1⟩ := St.give (hs.perm perm3) hb16
 clear hs
 obtain ⟨V2, hle2, hv18, hs⟩ := St.give hs1 hb18
 clear hs1
 have hP : RPairs V2 (.slice (some ⟨b16, 0, none⟩) 2 2) [⟨f, []⟩, ⟨s, []⟩] := ⟨_, SlV.cells (sp := []) (hle2 _ _ hv16) rfl (Nat.le_refl _), [.int .u16 f, .slice none 0 0], [.int .u16 s, .slice none 0 0], rfl, rfl, ⟨_, rfl, RB.nil _⟩, [.int .u16 s, .slice none 0 0], [], rfl, rfl, ⟨_, rfl, RB.nil _⟩, rfl⟩
 have hR : RRecs V2 (.slice (some ⟨b18, 0, none⟩) 1 1) [parR k f s] := ⟨_, SlV.cells (sp := []) hv18 rfl (Nat.le_refl _), Rows.one ⟨_, _, _, rfl, RB.nil _, RTexts.nil _, hP⟩ rfl⟩
 refine aB (lp (aO rfl (aP k_36 (hs.g 0 rfl) rfl)) rfl (aZ ok_6 rfl rfl (p_Pack (m := { answers := [parR k f s] }) (hG.mono hs.view) hs.isIn (RAsks.nil _) hR (RRecs.nil _) (RRecs.nil _) (par_mok hk hf hs2)) rfl (fun v27 w HF => ?_)))
 obtain ⟨V3, x, ok, o, rfl, hc, hx, hr⟩ := HF
 replace hs := hs.frame hc
 refine dM rfl rfl (dO rfl rfl rfl (dO rfl rfl rfl (dN rfl rfl (dN rfl rfl (aH (aF (dP (dM rfl rfl (lp (cS rfl) rfl (aH (bJ rfl (fun hc1 => ?_) (fun hc1 => ?_))))))))))))
 obtain rfl : ok = false := by simpa using hc1
 obtain ⟨_, _, hno⟩ := hr.resolve_left (fun h => by cases h.1)
 have hz : s = 0 := ((par_law hk hf hs2).resolve_right (fun ⟨_, o2, ty, h, _⟩ => by rw [hno] at h; cases h)).1
 refine dP (dM rfl rfl (lp (po_eqlT rfl rfl (by omega)) rfl (dM rfl rfl (cX rfl rfl hg (cF (cD rfl rfl ok_7 (c_packs (hG.mono hs.view) hs.isIn)) rfl (fun vP w HF => ?_))))))
 obtain ⟨rfl, VP, hc⟩ := HF
 replace hs := hs.frame hc
 refine lp (bO rfl rfl rfl) rfl (dN rfl rfl (aH (aV ⟨_, res1 rfl, ?_⟩)))
 exact ⟨rfl, _, hs.drop hb7⟩
 obtain rfl : ok = true := by simpa using hc1
 obtain ⟨_, hsome⟩ := hr.resolve_right (fun h => by cases h.1)
 obtain ⟨hs0, o2, ty, hp, hl, hu⟩ := (par_law hk hf hs2).resolve_left (fun h => by rw [hsome] at h; cases h.2)
 rw [hsome] at hp
 obtain rfl := Option.some.inj hp
 refine aW (dP (dM rfl rfl (aZ ok_8 rfl rfl (c_unpack (hG.mono hs.view) hs.isIn hx (by omega)) rfl (fun v39 w HF => ?_))))
 obtain ⟨V4, mcs, ok2, y, rfl, hc, hRM, hun⟩ := HF
 replace hs := hs.frame hc
 obtain ⟨rfl, e2⟩ : ok2 = true ∧ unpackM o = some y := by
  rcases hun with ⟨h1, h2⟩ | ⟨_, h2, _⟩
  exact ⟨h1, h2⟩
  rw [hu] at h2; cases h2
 rw [hu] at e2
 obtain rfl := Option.some.inj e2
 refine dM rfl rfl (dO rfl rfl rfl (dO rfl rfl rfl (aJ (aX hs z_36 rfl (fun b10 w hb10 he10 hs => aJ (dR 0 hs k_36 rfl rfl rfl hRM.flat.2 rfl hRM.flat.1 rfl (fun w hs => dN rfl rfl (aH (aF ?_)))))))))
 skip
 obtain ⟨q0, q1, q2, q3, rfl, _, ⟨xs, hS, xs1, xs2, rfl, _, ⟨vd, vt, vp, rfl, _, _, ys, hS2, c1, r1, rfl, _, ⟨u1, rfl, _⟩, c2, r2, rfl, _, ⟨u2, rfl, _⟩, _⟩, _⟩, _, _⟩ := hRM
 obtain ⟨a1, cc1, rfl, _, h1⟩ := hS.form
 obtain ⟨b1, p1, rfl, hcs⟩ := h1 (by simp)
 obtain ⟨a2, cc2, rfl, _, h2⟩ := hS2.form
 obtain ⟨b2, p2, rfl, hcs2⟩ := h2 (by simp)
 refine aB (dM rfl rfl (lp (po_gtrT rfl rfl (by omega)) rfl (dM rfl rfl (lg rfl rfl hg (aC rfl) rfl (lp (bO rfl rfl rfl) rfl (dM rfl rfl (lg rfl rfl hg (aR fo_36_2 rfl) rfl (lg rfl rfl hg (aO rfl (bR (v := .slice (some ⟨b1, p1, none⟩) 1 cc1) k_31 (by rw [cell_list (hs.g 0 rfl)]; rfl))) rfl (lg rfl rfl hg (bC Tryz.underlying31 rfl) rfl (lg rfl rfl hg (po_eqi rfl rfl) rfl (lp (bO rfl rfl rfl) rfl (dM rfl rfl (lg rfl rfl hg (aR fo_36_2 rfl) rfl ?_)))))))))))))
 refine lg rfl rfl hg (aO rfl (bR (v := .slice (some ⟨b1, p1, none⟩) 1 cc1) k_31 (by rw [cell_list (hs.g 0 rfl)]; rfl))) rfl (lg rfl rfl hg (po_iaN 0 p1 es_31 rfl rfl rfl (by decide) rfl) rfl (lg rfl rfl hg (bD fo_30_15 rfl) rfl (lg rfl rfl hg (aO rfl (bR (v := .slice (some ⟨b2, p2, none⟩) 2 cc2) k_26 (Vw.cell_in hs.isIn (hcs 15 _ rfl)))) rfl (lg rfl rfl hg (bC Tryz.underlying26 rfl) rfl (lg rfl rfl hg (po_eqi rfl rfl) rfl (lp (bO rfl rfl rfl) rfl (dM rfl rfl (lg rfl rfl hg (aR fo_36_2 rfl) rfl (lg rfl rfl hg (aO rfl (bR (v := .slice (some ⟨b1, p1, none⟩) 1 cc1) k_31 (by rw [cell_list (hs.g 0 rfl)]; rfl))) rfl (lg rfl rfl hg (po_iaN 0 p1 es_31 rfl rfl rfl (by decide) rfl) rfl (lg rfl rfl hg (bD fo_30_15 rfl) rfl (lg rfl rfl hg (aO rfl (bR (v := .slice (some ⟨b2, p2, none⟩) 2 cc2) k_26 (Vw.cell_in hs.isIn (hcs 15 _ rfl)))) rfl (lg rfl rfl hg (po_iaN 0 p2 es_26 rfl rfl rfl (by decide) rfl) rfl ?_)))))))))))))
 refine lg rfl rfl hg (bD fo_25_0 rfl) rfl (lg rfl rfl hg (aO rfl (bR (v := .int .u16 f) k_22 (Vw.cell_in hs.isIn (hcs2 0 _ rfl)))) rfl (lg rfl rfl hg (aC rfl) rfl (lg rfl rfl hg (po_eqi rfl rfl) rfl (lp (bO rfl rfl rfl) rfl (dM rfl rfl (lg rfl rfl hg (aR fo_36_2 rfl) rfl (lg rfl rfl hg (aO rfl (bR (v := .slice (some ⟨b1, p1, none⟩) 1 cc1) k_31 (by rw [cell_list (hs.g 0 rfl)]; rfl))) rfl (lg rfl rfl hg (po_iaN 0 p1 es_31 rfl rfl rfl (by decide) rfl) rfl (lg rfl rfl hg (bD fo_30_15 rfl) rfl (lg rfl rfl hg (aO rfl (bR (v := .slice (some ⟨b2, p2, none⟩) 2 cc2) k_26 (Vw.cell_in hs.isIn (hcs 15 _ rfl)))) rfl (lg rfl rfl hg (po_iaN 1 (p2 + 2) es_26 rfl rfl rfl (by decide) rfl) rfl (lg rfl rfl hg (bD fo_25_0 rfl) rfl (lg rfl rfl hg (aO rfl (bR (v := .int .u16 s) k_22 (Vw.cell_in hs.isIn (hcs2 2 _ rfl)))) rfl ?_)))))))))))))
 refine lg rfl rfl hg (aC rfl) rfl (lg rfl rfl hg (po_eqi rfl rfl) rfl (lp (bO rfl rfl rfl) rfl (dM rfl rfl (cX rfl rfl hg (cF (cD rfl rfl ok_7 (c_packs (hG.mono hs.view) hs.isIn)) rfl (fun vP w HF => ?_))))))
 obtain ⟨rfl, VP, hc⟩ := HF
 replace hs := hs.frame hc
 refine lp (bO rfl rfl rfl) rfl (dN rfl rfl (aH (aV ⟨_, res1 rfl, ?_⟩)))
 exact ⟨rfl, _, (hs.drop hb10).drop hb7⟩
end
end Go.Proofs.YtgpfjlfkaoffeaaGreatDoor
namespace Go.Proofs.YtgpfjlfkaoffeaaGreatDoor
open Go
def allV (W : World) : Vw := fun b => W.heap[b]?
theorem allV_in (W : World) : (allV W).In W := fun _ _ h => h
theorem St.below {W W' : World} {V V' : Vw} (h : St ⟨W, V, V'⟩ W' []) : Go.RowKit.Below W.heap.size W W' :=
 ⟨h.os, h.tape, h.output, h.size, fun k hk => h.old k hk (fun x hx => by cases hx)⟩
theorem allV_cell {W : World} {b q : Nat} {u : Value} (h : W.cell? ⟨b, q, none⟩ = some u) : (allV W).cell b q = some u := by
 unfold World.cell? at h
 unfold Vw.cell allV
 split at h
 rename_i cs t fz hb
 simp only at hb
 rw [hb]
 simpa using h
 cases h
def sent (x : String × List UInt8) : String × DataW Unit := (x.1, .iface "*errors.errorString" (.ptr (.agg [.lit (.string x.2)])))
theorem laid_app {P : Program} {W : World} {tp ti te ts : TypeId} {ms : Array (String × TypeId)} {f : Field}
  (hi : P.underlying ti = some (.interface ms)) (hrow : ∀ u, P.typeName? 3 u = some "*errors.errorString" → u = tp) (hp : P.underlying tp = some (.pointer te)) (he : P.underlying te = some (.struct #[f])) (hft : f.type = ts) (hfo : f.offset = 0) (hs : P.underlying ts = some .string) (hc : P.cellsOf te = 1) (hcs : P.cellsOf ts = 1) (r : List (String × DataW Unit)) :
  ∀ (S : List (String × List UInt8)) (gs : List Nat) (ps : List MemPlace), S.map (fun x => P.globalNamed x.1) = gs.map some → (∀ g ∈ gs, (P.globals[g]?).map (·.type) = some ti) → DataW.LaidVars P W (S.map sent ++ r) ps → ps.Nodup →
   (∀ b off, MemPlace.cell b off ∈ ps → (∃ c t, W.heap[b]? = some (.cells c t (0, 0))) ∧ ∀ u v, W.cell? ⟨b, off, none⟩ = some (.iface u v) → Value.okWide P W .any 0 u v) →
   ∃ al : List Addr, al.length = gs.length ∧ (∀ (i : Nat) (g : Nat) (a : Addr), gs[i]? = some g → al[i]? = some a → W.cell? ⟨g, 0, none⟩ = some (.iface tp (.pointer (some a)))) ∧
    (∀ a ∈ al, MemPlace.cell a.block a.off ∈ ps) ∧ (al.map fun a => MemPlace.cell a.block a.off).Nodup ∧ ∃ q, DataW.LaidVars P W r q ∧ q.Sublist ps
 | [], gs, ps, hg, _, h, _, _ => by
  have : gs = [] := by cases gs <;> simp_all
  subst this
  exact ⟨[], rfl, fun i g a hx _ => by simp at hx, fun a hx => (by cases hx), by simp, ps, h, List.Sublist.refl _⟩
 | x :: S, [], ps, hg, _, _, _, _ => by simp at hg
 | x :: S, g :: gs, ps, hg, hgt, h, hnd, hrows => by
  simp only [List.map_cons, List.cons.injEq] at hg
  obtain ⟨g0, t0, cs0, f0, p0, q0, hg0, ht0, hv0, hd0, hr, e0⟩ := h
  obtain rfl : g = g0 := Option.some.inj (hg.1.symm.trans hg0)
  obtain rfl := Option.some.inj ((hgt g (by simp)).symm.trans ht0)
  subst e0
  obtain ⟨l0⟩ := cs0
  have ok0 : ∀ u v, l0 = [.iface u v] → Value.okWide P W .any 0 u v := fun u v e => by
   subst e
   exact (hrows g 0 (by simp [MemPlace.row])).2 u v (by simpa using World.var?_cell hg0 hv0 0)
  obtain ⟨a0, s0, rfl, hc0, hs0, hz0, rfl⟩ := errorString_of_trod hi hrow hp he hft hfo hs hc hcs hd0 ok0
  have hq : q0.Sublist (MemPlace.row ⟨g, 0, none⟩ 1 ++ MemPlace.row a0 1 ++ q0) := List.sublist_append_right _ _
  obtain ⟨al, h1, h2, h3, h4, q, h5, h6⟩ := laid_app hi hrow hp he hft hfo hs hc hcs r S gs q0 hg.2 (fun g hgm => hgt g (by simp [hgm])) hr (List.Nodup.sublist hq hnd) (fun b off hm => hrows b off (hq.subset hm))
  refine ⟨a0 :: al, by simp [h1], ?_, ?_, ?_, q, h5, h6.trans hq⟩
  intro i g' a hg' ha
  cases i with
  | zero =>
   simp at hg' ha
   subst hg' ha
   simpa using World.var?_cell hg0 hv0 0
  | succ i => exact h2 i g' a (by simpa using hg') (by simpa using ha)
  intro a ha
  rcases List.mem_cons.1 ha with rfl | ha
  simp [MemPlace.row]
  exact hq.subset (h3 a ha)
  simp only [List.map_cons, List.nodup_cons]
  refine ⟨fun hm => ?_, h4⟩
  obtain ⟨a, ha, e⟩ := List.mem_map.1 hm
  have hin := h3 a ha
  rw [e] at hin
  have hn2 := hnd
  rw [List.append_assoc] at hn2
  have := (List.nodup_append.1 (List.nodup_append.1 hn2).2.1).2.2 (MemPlace.cell a0.block a0.off) (by simp [MemPlace.row]) _ hin
  exact this rfl
end Go.Proofs.YtgpfjlfkaoffeaaGreatDoor
namespace Go.Proofs.YtgpfjlfkaoffeaaGreatDoor
open Go
theorem findNow_u8 : ∀ (es : List MapEntry) (i : Nat) (k : Int), (∀ x ∈ es, (∃ n : Int, x.key = .int .u8 n) ∧ ∃ s : ByteArray, x.val = .string s ∧ s.size ≤ 100) →
  ∃ r, Instr.findNow (.int .u8) (.int .u8 k) es i = some r ∧ ∀ j v, r = some (j, v) → ∃ s : ByteArray, v = .string s ∧ s.size ≤ 100
 | [], i, k, _ => ⟨none, rfl, fun j v h => by cases h⟩
 | e :: es, i, k, h => by
  obtain ⟨⟨n, hn⟩, s, hs, hz⟩ := h e (by simp)
  unfold Instr.findNow
  rw [hn]
  simp only [Instr.sameNow, if_true]
  cases hk : (k == n)
  exact findNow_u8 es (i + 1) k (fun x hx => h x (by simp [hx]))
  exact ⟨_, rfl, fun j v hr => by cases hr; exact ⟨s, hs, hz⟩⟩
theorem laid_map {P : Program} {W : World} {t k e : TypeId} {fuel : Nat} {cs : List Value} {entries : List (Lit × DataW Unit)} {p : List MemPlace} {sp : Nat → Bool} (ht : P.underlying t = some (.map k e)) (hk : P.underlying k = some (.int .u8)) (he : P.underlying e = some .string)
  (h : DataW.trod (fun _ => ()) P W 0 sp false fuel t cs = some (.map entries, p)) (hb : ∀ x ∈ entries, ∃ bs : List UInt8, x.2 = .lit (.string bs) ∧ bs.length ≤ 100) :
  ∃ m es c, cs = [.map (some m)] ∧ W.heap[m]? = some (.map es c) ∧ ∀ x ∈ es.toList, (∃ n : Int, x.key = .int .u8 n) ∧ ∃ s : ByteArray, x.val = .string s ∧ s.size ≤ 100 := by
 rcases Go.WideElems.open_map ht h with ⟨_, hx⟩ | ⟨b, es, clock, n, rfl, rfl, hm, _, F, hx⟩
 cases hx
 refine ⟨b, es, clock, rfl, hm, fun x hxm => ?_⟩
 obtain ⟨y, hy⟩ := F.reads x hxm
 have hent : entries = (es.toList.map (Go.WideElems.rg P k (Go.WideElems.elemAt (fun _ => ()) P W 0 sp false n e))).foldr DataW.insert [] := by
  have := congrArg Prod.fst hx
  simpa using this
 have hmem : y ∈ entries := by
  rw [hent, (Go.WideShapes.sorted_perm _).mem_iff]
  exact List.mem_map.2 ⟨x, hxm, by unfold Go.WideElems.rg; rw [hy]; rfl⟩
 obtain ⟨bs, hbs, hlen⟩ := hb y hmem
 unfold Go.WideElems.rd at hy
 obtain ⟨key, hkey, hy⟩ := Option.bind_eq_some_iff.1 hy
 obtain ⟨z, hz, rfl⟩ := Option.map_eq_some_iff.1 hy
 simp only at hbs
 constructor
 unfold keyOf at hkey
 rw [hk] at hkey
 unfold mapKey at hkey
 rw [hk] at hkey
 cases hx2 : x.key <;> rw [hx2] at hkey <;> simp at hkey
 obtain ⟨⟨rfl, _⟩, _⟩ := hkey
 exact ⟨_, rfl⟩
 unfold Go.WideElems.elemAt at hz
 split at hz
 rename_i hfm
 obtain ⟨s, hcs, rfl, _⟩ := DataW.trod_string he hz
 refine ⟨s, ?_, ?_⟩
 cases hv : x.val <;> rw [hv] at hcs hfm <;> simp only [Value.cells, List.cons.injEq, and_true] at hcs <;> first | exact hcs | (exfalso; revert hfm; unfold Value.formed; rw [he]; simp)
 have e : s.data.toList = bs := by injection hbs with e1; injection e1
 show s.data.size ≤ 100
 rw [← Array.length_toList, e]
 exact hlen
 cases hz
end Go.Proofs.YtgpfjlfkaoffeaaGreatDoor

/- Packing: questions, headers. Packing: headers of resources, and their lengths put in behind. -/
import Derived.Test.YtgpfjlfkaoffeaaGreatDoorP21
import Derived.Test.YtgpfjlfkaoffeaaGreatDoorP10
set_option linter.all false
namespace Go.Proofs.YtgpfjlfkaoffeaaGreatDoor
open Go
def PackQ (A : Nat → Addr) (w00 : World) (V0 V : Vw) (L : List (Nat × Obj)) (bm : Nat) (pre : List UInt8) (R : Option Ink) (v : Value) (w' : World) : Prop :=
 ∃ (mv e : Value) (k : EK), v = .tuple #[mv, e] ∧ ErrV A e k ∧
  ((∃ w2 : Ink, k = .ok ∧ R = some w2 ∧ Keys w2.tbl ∧ Sl 5 1 ⟨w00, V0, V⟩ w' ((bm, tblObj w2.tbl) :: L) mv (pre.length + w2.out.length) ((pre ++ w2.out).map byteVal)) ∨
   (k = .other ∧ R = none ∧ ∃ t' : List (List UInt8 × Nat), St ⟨w00, V0, V⟩ w' ((bm, tblObj t') :: L)))
section
variable {A : Nat → Addr} {V V0 : Vw} {w w00 : World} {L : List (Nat × Obj)} {mv : Value} {k : EK} {bm : Nat} {pre : List UInt8} {R : Option Ink}
theorem PackQ.bad (h : (∃ w2 : Ink, k = .ok ∧ R = some w2 ∧ Keys w2.tbl ∧ Sl 5 1 ⟨w00, V0, V⟩ w ((bm, tblObj w2.tbl) :: L) mv (pre.length + w2.out.length) ((pre ++ w2.out).map byteVal)) ∨
  (k = .other ∧ R = none ∧ ∃ t' : List (List UInt8 × Nat), St ⟨w00, V0, V⟩ w ((bm, tblObj t') :: L))) (hk : k ≠ .ok) : R = none ∧ ∃ t' : List (List UInt8 × Nat), St ⟨w00, V0, V⟩ w ((bm, tblObj t') :: L) := by
 rcases h with ⟨_, h, _⟩ | h
 exact absurd h hk
 exact h.2
theorem PackQ.good (h : (∃ w2 : Ink, k = .ok ∧ R = some w2 ∧ Keys w2.tbl ∧ Sl 5 1 ⟨w00, V0, V⟩ w ((bm, tblObj w2.tbl) :: L) mv (pre.length + w2.out.length) ((pre ++ w2.out).map byteVal)) ∨
  (k = .other ∧ R = none ∧ ∃ t' : List (List UInt8 × Nat), St ⟨w00, V0, V⟩ w ((bm, tblObj t') :: L))) (hk : ¬ k ≠ .ok) :
  ∃ w2 : Ink, R = some w2 ∧ Keys w2.tbl ∧ Sl 5 1 ⟨w00, V0, V⟩ w ((bm, tblObj w2.tbl) :: L) mv (pre.length + w2.out.length) ((pre ++ w2.out).map byteVal) := by
 rcases h with ⟨w2, _, h⟩ | ⟨h, _⟩
 exact ⟨w2, h⟩
 subst h; exact absurd (by decide) hk
theorem PackQ.badF (h : (∃ w2 : Ink, k = .ok ∧ R = some w2 ∧ Keys w2.tbl ∧ Sl 5 1 ⟨w00, V0, V⟩ w L mv (pre.length + w2.out.length) ((pre ++ w2.out).map byteVal)) ∨
  (k = .other ∧ R = none ∧ ∃ _t : List (List UInt8 × Nat), St ⟨w00, V0, V⟩ w L)) (hk : k ≠ .ok) : R = none ∧ St ⟨w00, V0, V⟩ w L := by
 rcases h with ⟨_, h, _⟩ | ⟨_, h, _, h2⟩
 exact absurd h hk
 exact ⟨h, h2⟩
theorem PackQ.goodF (h : (∃ w2 : Ink, k = .ok ∧ R = some w2 ∧ Keys w2.tbl ∧ Sl 5 1 ⟨w00, V0, V⟩ w L mv (pre.length + w2.out.length) ((pre ++ w2.out).map byteVal)) ∨
  (k = .other ∧ R = none ∧ ∃ _t : List (List UInt8 × Nat), St ⟨w00, V0, V⟩ w L)) (hk : ¬ k ≠ .ok) :
  ∃ w2 : Ink, R = some w2 ∧ Keys w2.tbl ∧ Sl 5 1 ⟨w00, V0, V⟩ w L mv (pre.length + w2.out.length) ((pre ++ w2.out).map byteVal) := by
 rcases h with ⟨w2, _, h⟩ | ⟨h, _⟩
 exact ⟨w2, h⟩
 subst h; exact absurd (by decide) hk
end
def askN (s : List UInt8) (ty cl : Nat) (w : Ink) : Option Ink := (nameP true s w).map fun w => w.put (be2 ty ++ be2 cl)
theorem at256 {s : List UInt8} {n : Nat} {r : List Value} (h : s.length ≤ 255) (j : Nat) {u : Value} (hu : r[j]? = some u) : (nmC s n ++ r)[256 + j]? = some u := by
 rw [List.getElem?_append_right (by rw [cM h]; omega), cM h]
 simpa using hu
theorem at0 {s : List UInt8} {n : Nat} {r : List Value} (j : Nat) {u : Value} (hu : (nmC s n)[j]? = some u) : (nmC s n ++ r)[0 + j]? = some u := by
 have hl : j < (nmC s n).length := (List.getElem?_eq_some_iff.1 hu).1
 rw [Nat.zero_add, List.getElem?_append_left hl]; exact hu
section
variable {A : Nat → Addr} {V V0 : Vw} {w w00 : World} {L : List (Nat × Obj)} {msg : Value} {m bm bq p0 : Nat} {pre out s : List UInt8} {t : List (List UInt8 × Nat)}
set_option maxHeartbeats 1000000 in
theorem p_question (hG : Gl A V) (hs : Sl 5 1 ⟨w00, V0, V⟩ w ((bm, tblObj t) :: L) msg (pre.length + out.length) ((pre ++ out).map byteVal)) (hm : pre.length + out.length ≤ 274877906944) {ty cl : Nat} (h255 : s.length ≤ 255)
  (hQ : CellsW ⟨w00, V0, V⟩ L bq p0 (nmC s s.length ++ [.int .u16 ty, .int .u16 cl])) (hty : ty < 65536) (hcl : cl < 65536) (hk : Keys t) :
  CallsV Tryz.prog 64 #[.pointer (some ⟨bq, p0, none⟩), msg, .map (some bm), .int .i64 (pre.length : Nat)] w fun v w' => ∃ (mv e : Value) (k : EK), v = .tuple #[mv, e] ∧ ErrV A e k ∧
   ((∃ w2 : Ink, k = .ok ∧ askN s ty cl ⟨out, t⟩ = some w2 ∧ Keys w2.tbl ∧ Sl 5 1 ⟨w00, V0, V⟩ w' ((bm, tblObj w2.tbl) :: L) mv (pre.length + w2.out.length) ((pre ++ w2.out).map byteVal)) ∨
    (k = .other ∧ askN s ty cl ⟨out, t⟩ = none ∧ ∃ t' : List (List UInt8 × Nat), St ⟨w00, V0, V⟩ w' ((bm, tblObj t') :: L))) := by
 have hN : NameW ⟨w00, V0, V⟩ L bq p0 s := ⟨h255, hQ.part 0 (fun j u hu => at0 j hu)⟩
 have hM : ∀ {t : List (List UInt8 × Nat)}, ∀ x ∈ L, x ∈ (bm, tblObj t) :: L := fun x hx => List.mem_cons_of_mem _ hx
 refine aT [_, _, _, _] Tryz.func64 Tryz.ntmps64 Tryz.results64 rfl rfl (dP (dN rfl rfl (dN rfl rfl (aH (dP (dM rfl rfl (lp (aN rfl) rfl (lp (po_fa0' fo_90_0 rfl) rfl (dM rfl rfl (dM rfl rfl (dM rfl rfl (aZ ok_144 rfl rfl (p_nameT hG hs (by omega) hN hk) rfl (fun v18 w HF => ?_)))))))))))))
 obtain ⟨mv, e, k, rfl, he, hr⟩ := HF
 clear hs
 refine dM rfl rfl (dO rfl rfl rfl (dO rfl rfl rfl (dN rfl rfl (dN rfl rfl (aH (aF (dP (dM rfl rfl (lp (bB he rfl) rfl (aH (bH rfl (fun hc0 => ?_) (fun hc0 => ?_))))))))))))
 obtain ⟨hno, t', hs⟩ := PackQ.bad hr hc0
 refine dP (dM rfl rfl (dM rfl rfl (lp (bL rfl (by (simp only [List.all_cons, List.all_nil, he.oneCell]; rfl)) (bu_141_0_1 _ _)) rfl (aJ (cR hs rfl rfl rfl (fun b26 w hb26 hbe26 hs => ?_))))))
 replace hs := hs.drop hb26
 refine lp (cG Tryz.underlying139 (fun _ h => by cases h) rfl) rfl (dN rfl rfl (dN rfl rfl (aH (aV ⟨_, res2 rfl rfl, ?_⟩))))
 exact ⟨_, _, .other, rfl, dA, .inr ⟨rfl, by unfold askN; rw [hno]; rfl, t', hs⟩⟩
 obtain ⟨w2, hn, hk2, hs⟩ := PackQ.good hr hc0
 have hgrow := nameP_len hn
 simp only at hgrow
 refine aW (dP (dM rfl rfl (dM rfl rfl (lp (aN rfl) rfl (lp (bD fo_90_1 rfl) rfl (lp (aO rfl (bR k_87 (hQ.ld hs.st hM 256 (at256 h255 0 rfl)))) rfl (aZ ok_145 rfl rfl (p_packType hs (by omega) ty hty) rfl (fun v33 w HF => ?_))))))))
 obtain _ := HF
 replace hs := HF
 refine dN rfl rfl (aH (dP (dM rfl rfl (dM rfl rfl (lp (aN rfl) rfl (lp (bD fo_90_2 rfl) rfl (lp (aO rfl (bR k_88 (hQ.ld hs.st hM 257 (at256 h255 1 rfl)))) rfl (aZ ok_146 rfl rfl (p_packClass hs (by omega) cl hcl) rfl (fun v39 w HF => ?_)))))))))
 obtain _ := HF
 replace hs := HF
 refine dN rfl rfl (dN rfl rfl (aH (aV ⟨_, res2 rfl rfl, ?_⟩)))
 exact ⟨_, _, .ok, rfl, rfl, .inl ⟨w2.put (be2 ty ++ be2 cl), rfl, by unfold askN; rw [hn]; rfl, hk2, by simpa [Ink.put, be2, Nat.add_assoc] using hs⟩⟩
def hdr6 (a b c d e f : Nat) : List Value := [.int .u16 a, .int .u16 b, .int .u16 c, .int .u16 d, .int .u16 e, .int .u16 f]
set_option maxHeartbeats 1000000 in
theorem p_header (hs : Sl 5 1 ⟨w00, V0, V⟩ w L msg m (out.map byteVal)) (hm : m ≤ 274877906944) {a b c d e f : Nat} (hQ : CellsW ⟨w00, V0, V⟩ L bq p0 (hdr6 a b c d e f)) (ha : a < 65536) (hb : b < 65536) (hc : c < 65536) (hd : d < 65536) (he : e < 65536)
  (hf : f < 65536) : CallsV Tryz.prog 63 #[.pointer (some ⟨bq, p0, none⟩), msg] w fun v w' => Sl 5 1 ⟨w00, V0, V⟩ w' L v (m + 12) ((out ++ (be2 a ++ be2 b ++ be2 c ++ be2 d ++ be2 e ++ be2 f)).map byteVal) := by
 refine aT [_, _] Tryz.func63 Tryz.ntmps63 Tryz.results63 rfl rfl (dP (dN rfl rfl (aH (dP (dM rfl rfl (dM rfl rfl (lp (aN rfl) rfl (lp (po_fa0' fo_97_0 rfl) rfl (lp (aO rfl (bR k_22 (hQ.ld hs.st (fun x hx => hx) 0 rfl))) rfl (aZ ok_143 rfl rfl (p_packUint16 hs (by omega) a ha) rfl (fun v10 w HF => ?_)))))))))))
 obtain _ := HF
 replace hs := HF
 refine dN rfl rfl (aH (dP (dM rfl rfl (dM rfl rfl (lp (aN rfl) rfl (lp (bD fo_97_1 rfl) rfl (lp (aO rfl (bR k_22 (hQ.ld hs.st (fun x hx => hx) 1 rfl))) rfl (aZ ok_143 rfl rfl (p_packUint16 hs (by omega) b hb) rfl (fun v16 w HF => ?_)))))))))
 obtain _ := HF
 replace hs := HF
 refine dN rfl rfl (aH (dP (dM rfl rfl (dM rfl rfl (lp (aN rfl) rfl (lp (bD fo_97_2 rfl) rfl (lp (aO rfl (bR k_22 (hQ.ld hs.st (fun x hx => hx) 2 rfl))) rfl (aZ ok_143 rfl rfl (p_packUint16 hs (by omega) c hc) rfl (fun v22 w HF => ?_)))))))))
 obtain _ := HF
 replace hs := HF
 refine dN rfl rfl (aH (dP (dM rfl rfl (dM rfl rfl (lp (aN rfl) rfl (lp (bD fo_97_3 rfl) rfl (lp (aO rfl (bR k_22 (hQ.ld hs.st (fun x hx => hx) 3 rfl))) rfl (aZ ok_143 rfl rfl (p_packUint16 hs (by omega) d hd) rfl (fun v28 w HF => ?_)))))))))
 obtain _ := HF
 replace hs := HF
 refine dN rfl rfl (aH (dP (dM rfl rfl (dM rfl rfl (lp (aN rfl) rfl (lp (bD fo_97_4 rfl) rfl (lp (aO rfl (bR k_22 (hQ.ld hs.st (fun x hx => hx) 4 rfl))) rfl (aZ ok_143 rfl rfl (p_packUint16 hs (by omega) e he) rfl (fun v34 w HF => ?_)))))))))
 obtain _ := HF
 replace hs := HF
 refine dN rfl rfl (aH (dP (dM rfl rfl (dM rfl rfl (lp (aN rfl) rfl (lp (bD fo_97_5 rfl) rfl (lp (aO rfl (bR k_22 (hQ.ld hs.st (fun x hx => hx) 5 rfl))) rfl (aZ ok_143 rfl rfl (p_packUint16 hs (by omega) f hf) rfl (fun v40 w HF => ?_)))))))))
 obtain _ := HF
 replace hs := HF
 refine dN rfl rfl (aH (aV ⟨_, res1 rfl, ?_⟩))
 simpa [Nat.add_assoc, List.append_assoc] using hs
def headV (h : PHead) : List Value := [.int .u16 h.id, .bool h.response, .int .u16 h.op, .bool h.authority, .bool h.cut, .bool h.desired, .bool h.available, .bool h.authentic, .bool h.unchecked, .int .u16 h.code]
theorem u16shl11 {a : Nat} (h : a < 32) : IntKind.u16.wrap ((a : Int) * 2 ^ (min (11 : Int).toNat IntKind.u16.bits)) = ((a * 2048 : Nat) : Int) := by
 have : (2 : Int) ^ (min (11 : Int).toNat IntKind.u16.bits) = 2048 := by decide
 rw [this]
 exact u16c (by omega) (by omega)
theorem orIf_t {a n : Nat} {c : Bool} (h : c = true) : orIf c a n = a ||| n := by subst h; rfl
theorem orIf_f {a n : Nat} {c : Bool} (h : c = false) : orIf c a n = a := by subst h; rfl
set_option maxHeartbeats 1000000 in
theorem p_Header {M : List (Nat × Obj)} (hs : St ⟨w00, V0, V⟩ w M) (hM : ∀ x ∈ L, x ∈ M) (h : PHead) (hQ : CellsW ⟨w00, V0, V⟩ L bq p0 (headV h)) (hop : h.op < 16) (hco : h.code < 16) :
  CallsV Tryz.prog 62 #[.pointer (some ⟨bq, p0, none⟩)] w fun v w' => v = .tuple #[.int .u16 h.id, .int .u16 (h.bits : Nat)] ∧ St ⟨w00, V0, V⟩ w' M := by
 have h0 : (h.op * 2048 ||| h.code) < 65536 := Nat.or_lt_two_pow (n := 16) (by omega) (by omega)
 have h1 : (orIf h.available (h.op * 2048 ||| h.code) 128) < 65536 := orIf_lt h0 (by decide)
 have h2 : (orIf h.desired (orIf h.available (h.op * 2048 ||| h.code) 128) 256) < 65536 := orIf_lt h1 (by decide)
 have h3 : (orIf h.cut (orIf h.desired (orIf h.available (h.op * 2048 ||| h.code) 128) 256) 512) < 65536 := orIf_lt h2 (by decide)
 have h4 : (orIf h.authority (orIf h.cut (orIf h.desired (orIf h.available (h.op * 2048 ||| h.code) 128) 256) 512) 1024) < 65536 := orIf_lt h3 (by decide)
 have h5 : (orIf h.response (orIf h.authority (orIf h.cut (orIf h.desired (orIf h.available (h.op * 2048 ||| h.code) 128) 256) 512) 1024) 32768) < 65536 := orIf_lt h4 (by decide)
 have h6 : (orIf h.authentic (orIf h.response (orIf h.authority (orIf h.cut (orIf h.desired (orIf h.available (h.op * 2048 ||| h.code) 128) 256) 512) 1024) 32768) 32) < 65536 := orIf_lt h5 (by decide)
 have h7 : (orIf h.unchecked (orIf h.authentic (orIf h.response (orIf h.authority (orIf h.cut (orIf h.desired (orIf h.available (h.op * 2048 ||| h.code) 128) 256) 512) 1024) 32768) 32) 16) < 65536 := orIf_lt h6 (by decide)
 refine aT [_] Tryz.func62 Tryz.ntmps62 Tryz.results62 rfl rfl (dP (dN rfl rfl (dN rfl rfl (aH (dP (dM rfl rfl (lp (aN rfl) rfl (lp (po_fa0' fo_50_0 rfl) rfl (lp (aO rfl (bR k_22 (hQ.ld hs hM 0 rfl))) rfl (dN rfl rfl (aH (aF (bV hs [3, 8] mixed (fun w hs => ?_))))))))))))))
 refine dI 0 rfl (fun w => aC rfl) rfl rfl (dI 1 rfl (fun w => aN rfl) rfl rfl (dI 2 rfl (fun w => bD fo_50_2 rfl) rfl rfl (dJ 3 rfl hs rfl (fun w hs => (aO rfl (bR k_47 (hQ.ld hs hM 2 rfl)))) rfl (dI 4 rfl (fun w => (po_shl (c := (h.op * 2048 : Nat)) rfl rfl (by decide) (u16shl11 (by omega)))) rfl rfl (dI 5 rfl (fun w => aC rfl) rfl rfl (dI 6 rfl (fun w => aN rfl) rfl rfl (dI 7 rfl (fun w => bD fo_50_9 rfl) rfl rfl (dJ 8 rfl hs rfl (fun w hs => (aO rfl (bR k_48 (hQ.ld hs hM 9 rfl)))) rfl (dI 9 rfl (fun w => (po_or rfl rfl (u16or (by omega) (by omega)))) rfl rfl (dI 10 rfl (fun w => aD rfl) rfl rfl (bS (by decide +kernel) (dG (fun ρ w => Sub (upd (upd (upd emp 3 (.int .u16 ((orIf h.available (h.op * 2048 ||| h.code) 128) : Nat))) 2 (.int .u16 h.id)) 0 (.pointer (some ⟨bq, p0, none⟩))) ρ ∧ St ⟨w00, V0, V⟩ w M) ?_ ?_))))))))))))
 refine dP (dM rfl rfl (lp (aN rfl) rfl (lp (bD fo_50_6 rfl) rfl (lp (aO rfl (bR k_4 (hQ.ld hs hM 6 rfl))) rfl (aH (bJ rfl (fun hc0 => ?_) (fun hc0 => ?_)))))))
 refine aB (dM rfl rfl (lp (po_or rfl rfl (u16or (b := 128) h0 (by decide))) rfl (dN rfl rfl (aH ?_))))
 exact ⟨aL rfl (aL rfl (aL (congrArg (fun q : Nat => some (Value.int .u16 q)) (orIf_t hc0).symm) (bG _))), hs⟩
 refine aW ?_
 exact ⟨aL rfl (aL rfl (aL (congrArg (fun q : Nat => some (Value.int .u16 q)) (orIf_f hc0).symm) (bG _))), hs⟩
 clear hs
 rintro ρ w ⟨hsub, hs⟩
 refine EW.weaken hsub (dG (fun ρ w => Sub (upd (upd (upd emp 3 (.int .u16 ((orIf h.desired (orIf h.available (h.op * 2048 ||| h.code) 128) 256) : Nat))) 2 (.int .u16 h.id)) 0 (.pointer (some ⟨bq, p0, none⟩))) ρ ∧ St ⟨w00, V0, V⟩ w M) ?_ ?_)
 refine dP (dM rfl rfl (lp (aN rfl) rfl (lp (bD fo_50_5 rfl) rfl (lp (aO rfl (bR k_4 (hQ.ld hs hM 5 rfl))) rfl (aH (bJ rfl (fun hc1 => ?_) (fun hc1 => ?_)))))))
 refine aB (dM rfl rfl (lp (po_or rfl rfl (u16or (b := 256) h1 (by decide))) rfl (dN rfl rfl (aH ?_))))
 exact ⟨aL rfl (aL rfl (aL (congrArg (fun q : Nat => some (Value.int .u16 q)) (orIf_t hc1).symm) (bG _))), hs⟩
 refine aW ?_
 exact ⟨aL rfl (aL rfl (aL (congrArg (fun q : Nat => some (Value.int .u16 q)) (orIf_f hc1).symm) (bG _))), hs⟩
 clear hs
 rintro ρ w ⟨hsub, hs⟩
 refine EW.weaken hsub (dG (fun ρ w => Sub (upd (upd (upd emp 3 (.int .u16 ((orIf h.cut (orIf h.desired (orIf h.available (h.op * 2048 ||| h.code) 128) 256) 512) : Nat))) 2 (.int .u16 h.id)) 0 (.pointer (some ⟨bq, p0, none⟩))) ρ ∧ St ⟨w00, V0, V⟩ w M) ?_ ?_)
 refine dP (dM rfl rfl (lp (aN rfl) rfl (lp (bD fo_50_4 rfl) rfl (lp (aO rfl (bR k_4 (hQ.ld hs hM 4 rfl))) rfl (aH (bJ rfl (fun hc2 => ?_) (fun hc2 => ?_)))))))
 refine aB (dM rfl rfl (lp (po_or rfl rfl (u16or (b := 512) h2 (by decide))) rfl (dN rfl rfl (aH ?_))))
 exact ⟨aL rfl (aL rfl (aL (congrArg (fun q : Nat => some (Value.int .u16 q)) (orIf_t hc2).symm) (bG _))), hs⟩
 refine aW ?_
 exact ⟨aL rfl (aL rfl (aL (congrArg (fun q : Nat => some (Value.int .u16 q)) (orIf_f hc2).symm) (bG _))), hs⟩
 clear hs
 rintro ρ w ⟨hsub, hs⟩
 refine EW.weaken hsub (dG (fun ρ w => Sub (upd (upd (upd emp 3 (.int .u16 ((orIf h.authority (orIf h.cut (orIf h.desired (orIf h.available (h.op * 2048 ||| h.code) 128) 256) 512) 1024) : Nat))) 2 (.int .u16 h.id)) 0 (.pointer (some ⟨bq, p0, none⟩))) ρ ∧ St ⟨w00, V0, V⟩ w M) ?_ ?_)
 refine dP (dM rfl rfl (lp (aN rfl) rfl (lp (bD fo_50_3 rfl) rfl (lp (aO rfl (bR k_4 (hQ.ld hs hM 3 rfl))) rfl (aH (bJ rfl (fun hc3 => ?_) (fun hc3 => ?_)))))))
 refine aB (dM rfl rfl (lp (po_or rfl rfl (u16or (b := 1024) h3 (by decide))) rfl (dN rfl rfl (aH ?_))))
 exact ⟨aL rfl (aL rfl (aL (congrArg (fun q : Nat => some (Value.int .u16 q)) (orIf_t hc3).symm) (bG _))), hs⟩
 refine aW ?_
 exact ⟨aL rfl (aL rfl (aL (congrArg (fun q : Nat => some (Value.int .u16 q)) (orIf_f hc3).symm) (bG _))), hs⟩
 clear hs
 rintro ρ w ⟨hsub, hs⟩
 refine EW.weaken hsub (dG (fun ρ w => Sub (upd (upd (upd emp 3 (.int .u16 ((orIf h.response (orIf h.authority (orIf h.cut (orIf h.desired (orIf h.available (h.op * 2048 ||| h.code) 128) 256) 512) 1024) 32768) : Nat))) 2 (.int .u16 h.id)) 0 (.pointer (some ⟨bq, p0, none⟩))) ρ ∧ St ⟨w00, V0, V⟩ w M) ?_ ?_)
 refine dP (dM rfl rfl (lp (aN rfl) rfl (lp (bD fo_50_1 rfl) rfl (lp (aO rfl (bR k_4 (hQ.ld hs hM 1 rfl))) rfl (aH (bJ rfl (fun hc4 => ?_) (fun hc4 => ?_)))))))
 refine aB (dM rfl rfl (lp (po_or rfl rfl (u16or (b := 32768) h4 (by decide))) rfl (dN rfl rfl (aH ?_))))
 exact ⟨aL rfl (aL rfl (aL (congrArg (fun q : Nat => some (Value.int .u16 q)) (orIf_t hc4).symm) (bG _))), hs⟩
 refine aW ?_
 exact ⟨aL rfl (aL rfl (aL (congrArg (fun q : Nat => some (Value.int .u16 q)) (orIf_f hc4).symm) (bG _))), hs⟩
 clear hs
 rintro ρ w ⟨hsub, hs⟩
 refine EW.weaken hsub (dG (fun ρ w => Sub (upd (upd (upd emp 3 (.int .u16 ((orIf h.authentic (orIf h.response (orIf h.authority (orIf h.cut (orIf h.desired (orIf h.available (h.op * 2048 ||| h.code) 128) 256) 512) 1024) 32768) 32) : Nat))) 2 (.int .u16 h.id)) 0 (.pointer (some ⟨bq, p0, none⟩))) ρ ∧ St ⟨w00, V0, V⟩ w M) ?_ ?_)
 refine dP (dM rfl rfl (lp (aN rfl) rfl (lp (bD fo_50_7 rfl) rfl (lp (aO rfl (bR k_4 (hQ.ld hs hM 7 rfl))) rfl (aH (bJ rfl (fun hc5 => ?_) (fun hc5 => ?_)))))))
 refine aB (dM rfl rfl (lp (po_or rfl rfl (u16or (b := 32) h5 (by decide))) rfl (dN rfl rfl (aH ?_))))
 exact ⟨aL rfl (aL rfl (aL (congrArg (fun q : Nat => some (Value.int .u16 q)) (orIf_t hc5).symm) (bG _))), hs⟩
 refine aW ?_
 exact ⟨aL rfl (aL rfl (aL (congrArg (fun q : Nat => some (Value.int .u16 q)) (orIf_f hc5).symm) (bG _))), hs⟩
 clear hs
 rintro ρ w ⟨hsub, hs⟩
 refine EW.weaken hsub (dG (fun ρ w => Sub (upd (upd (upd emp 3 (.int .u16 ((orIf h.unchecked (orIf h.authentic (orIf h.response (orIf h.authority (orIf h.cut (orIf h.desired (orIf h.available (h.op * 2048 ||| h.code) 128) 256) 512) 1024) 32768) 32) 16) : Nat))) 2 (.int .u16 h.id)) 0 (.pointer (some ⟨bq, p0, none⟩))) ρ ∧ St ⟨w00, V0, V⟩ w M) ?_ ?_)
 refine dP (dM rfl rfl (lp (aN rfl) rfl (lp (bD fo_50_8 rfl) rfl (lp (aO rfl (bR k_4 (hQ.ld hs hM 8 rfl))) rfl (aH (bJ rfl (fun hc6 => ?_) (fun hc6 => ?_)))))))
 refine aB (dM rfl rfl (lp (po_or rfl rfl (u16or (b := 16) h6 (by decide))) rfl (dN rfl rfl (aH ?_))))
 exact ⟨aL rfl (aL rfl (aL (congrArg (fun q : Nat => some (Value.int .u16 q)) (orIf_t hc6).symm) (bG _))), hs⟩
 refine aW ?_
 exact ⟨aL rfl (aL rfl (aL (congrArg (fun q : Nat => some (Value.int .u16 q)) (orIf_f hc6).symm) (bG _))), hs⟩
 clear hs
 rintro ρ w ⟨hsub, hs⟩
 refine EW.weaken hsub (aV ⟨_, res2 rfl rfl, ?_⟩)
 exact ⟨rfl, hs⟩
end
end Go.Proofs.YtgpfjlfkaoffeaaGreatDoor
namespace Go.Proofs.YtgpfjlfkaoffeaaGreatDoor
open Go
theorem setAt_map {l b : List UInt8} {i : Nat} {sp : List Value} (h : i + b.length ≤ l.length) :
  (l.map byteVal ++ sp).take i ++ b.map byteVal ++ (l.map byteVal ++ sp).drop (i + b.length) = (setAt l i b).map byteVal ++ sp := by
 unfold setAt
 rw [List.take_append_of_le_length (by simp; omega), List.drop_append_of_le_length (by simp; omega)]
 simp [List.map_take, List.map_drop]
theorem setAt_len {l b : List UInt8} {i : Nat} (h : i + b.length ≤ l.length) : (setAt l i b).length = l.length := by
 unfold setAt
 simp
 omega
section
variable {A : Nat → Addr} {V V0 : Vw} {w w00 : World} {L M M' : List (Nat × Obj)} {msg : Value} {m bm br p0 g q c kk : Nat} {pre out s : List UInt8} {t : List (List UInt8 × Nat)} {E : TypeId} {l : List Value}
theorem p_packAt (hs : St ⟨w00, V0, V⟩ w M) (hk : lget M kk = some (g, .cells l.toArray E (0, 0))) (hc : 2 ≤ c) (hq : q + 2 ≤ l.length) (x : Nat) (hx : x < 65536)
  (hL : lset M kk (g, .cells (l.take q ++ (be2 x).map byteVal ++ l.drop (q + 2)).toArray E (0, 0)) = some M') :
  CallsV Tryz.prog 143 #[.slice (some ⟨g, q, none⟩) 0 c, .int .u16 x] w fun _ w' => St ⟨w00, V0, V⟩ w' M' := by
 refine aT [_, _] Tryz.func143 Tryz.ntmps143 Tryz.results143 rfl rfl (dP (dN rfl rfl (aH (dP (dM rfl rfl (dM rfl rfl (lp (po_shr (c := (x / 256 : Nat)) rfl rfl (by decide) (u16sh (k := 8) (n := x))) rfl (lp (bY Tryz.underlying22 Tryz.underlying5 rfl (u16hi hx)) rfl (dM rfl rfl (lp (bY Tryz.underlying22 Tryz.underlying5 rfl u8lo) rfl (l_appAt (be2 x) el_23 hs (fun _ => rfl) rfl rfl rfl (by decide) (by decide) hk hc hq hL rfl rfl (fun b11 w hs => ?_))))))))))))
 skip
 refine dN rfl rfl (aH (aV ⟨_, res1 rfl, ?_⟩))
 exact hs
def rhdC (s : List UInt8) (ty cl ttl len : Nat) : List Value := nmC s s.length ++ [.int .u16 ty, .int .u16 cl, .int .u32 ttl, .int .u16 len]
set_option maxHeartbeats 1000000 in
theorem p_rheader (hG : Gl A V) (hs : Sl 5 1 ⟨w00, V0, V⟩ w ((bm, tblObj t) :: L) msg (pre.length + out.length) ((pre ++ out).map byteVal)) (hm : pre.length + out.length ≤ 274877906944) {ty cl ttl len : Nat} (h255 : s.length ≤ 255)
  (hQ : CellsW ⟨w00, V0, V⟩ L br p0 (rhdC s ty cl ttl len)) (hty : ty < 65536) (hcl : cl < 65536) (hlen : len < 65536) (hk : Keys t) :
  CallsV Tryz.prog 147 #[.pointer (some ⟨br, p0, none⟩), msg, .map (some bm), .int .i64 (pre.length : Nat)] w fun v w' => ∃ (mv e : Value) (k : EK) (o : Nat), v = .tuple #[mv, .int .i64 o, e] ∧ ErrV A e k ∧
   ((∃ w2 : Ink, k = .ok ∧ nameP true s ⟨out, t⟩ = some w2 ∧ Keys w2.tbl ∧ o = pre.length + (w2.out.length + 8) ∧
     Sl 5 1 ⟨w00, V0, V⟩ w' ((bm, tblObj w2.tbl) :: L) mv (pre.length + (w2.out.length + 10)) ((pre ++ (w2.out ++ (be2 ty ++ be2 cl ++ be4 ttl ++ be2 len))).map byteVal)) ∨
    (k = .other ∧ nameP true s ⟨out, t⟩ = none ∧ ∃ t' : List (List UInt8 × Nat), St ⟨w00, V0, V⟩ w' ((bm, tblObj t') :: L))) := by
 have hN : NameW ⟨w00, V0, V⟩ L br p0 s := ⟨h255, hQ.part 0 (fun j u hu => at0 j hu)⟩
 have hM : ∀ {t : List (List UInt8 × Nat)}, ∀ x ∈ L, x ∈ (bm, tblObj t) :: L := fun x hx => List.mem_cons_of_mem _ hx
 refine aT [_, _, _, _] Tryz.func147 Tryz.ntmps147 Tryz.results147 rfl rfl (dP (dN rfl rfl (dN rfl rfl (dN rfl rfl (aH (dP (dM rfl rfl (dN rfl rfl (aH (aF (dP (dM rfl rfl (lp (aN rfl) rfl ?_)))))))))))))
 refine lp (po_fa0' fo_112_0 rfl) rfl (dM rfl rfl (dM rfl rfl (dM rfl rfl (aZ ok_144 rfl rfl (p_nameT hG hs (by omega) hN hk) rfl (fun v19 w HF => ?_)))))
 obtain ⟨mv, e, k, rfl, he, hr⟩ := HF
 clear hs
 refine dM rfl rfl (dO rfl rfl rfl (dO rfl rfl rfl (dN rfl rfl (dN rfl rfl (aH (dP (dM rfl rfl (lp (bB he rfl) rfl (aH (bH rfl (fun hc0 => ?_) (fun hc0 => ?_)))))))))))
 obtain ⟨hno, t', hs⟩ := PackQ.bad hr hc0
 refine dP (dM rfl rfl (dM rfl rfl (lp (bL rfl (by (simp only [List.all_cons, List.all_nil, he.oneCell]; rfl)) (bu_141_0_1 _ _)) rfl (aJ (cR hs rfl rfl rfl (fun b27 w hb27 hbe27 hs => ?_))))))
 replace hs := hs.drop hb27
 refine lp (cG Tryz.underlying139 (fun _ h => by cases h) rfl) rfl (dN rfl rfl (dN rfl rfl (dN rfl rfl (aH (aV ⟨_, res3 rfl rfl rfl, ?_⟩)))))
 exact ⟨_, _, .other, 0, rfl, dA, .inr ⟨rfl, hno, t', hs⟩⟩
 obtain ⟨w2, hn, hk2, hs⟩ := PackQ.good hr hc0
 have hgrow := nameP_len hn
 simp only at hgrow
 refine aW (dP (dM rfl rfl (dM rfl rfl (lp (aN rfl) rfl (lp (bD fo_112_1 rfl) rfl (lp (aO rfl (bR k_87 (hQ.ld hs.st hM 256 (at256 h255 0 rfl)))) rfl (aZ ok_145 rfl rfl (p_packType hs (by omega) ty hty) rfl (fun v34 w HF => ?_))))))))
 obtain _ := HF
 replace hs := HF
 refine dN rfl rfl (aH (dP (dM rfl rfl (dM rfl rfl (lp (aN rfl) rfl (lp (bD fo_112_2 rfl) rfl (lp (aO rfl (bR k_88 (hQ.ld hs.st hM 257 (at256 h255 1 rfl)))) rfl (aZ ok_146 rfl rfl (p_packClass hs (by omega) cl hcl) rfl (fun v40 w HF => ?_)))))))))
 obtain _ := HF
 replace hs := HF
 refine dN rfl rfl (aH (dP (dM rfl rfl (dM rfl rfl (lp (aN rfl) rfl (lp (bD fo_112_3 rfl) rfl (lp (aO rfl (bR cB (hQ.ld hs.st hM 258 (at256 h255 2 rfl)))) rfl (aZ ok_187 rfl rfl (p_packUint32 hs (by omega) ttl) rfl (fun v46 w HF => ?_)))))))))
 obtain _ := HF
 replace hs := HF
 obtain ⟨sa, scap, rfl⟩ := hs.size
 refine dN rfl rfl (aH (dP (dM rfl rfl (lp (bC Tryz.underlying23 rfl) rfl (dN rfl rfl (aH (dP (dM rfl rfl (dM rfl rfl (lp (aN rfl) rfl (lp (bD fo_112_4 rfl) rfl (lp (aO rfl (bR k_22 (hQ.ld hs.st hM 259 (at256 h255 3 rfl)))) rfl (aZ ok_143 rfl rfl (p_packUint16 hs (by omega) len hlen) rfl (fun v54 w HF => ?_))))))))))))))
 obtain _ := HF
 replace hs := HF
 refine dN rfl rfl (aH (dP (dM rfl rfl (dM rfl rfl (dN rfl rfl (dN rfl rfl (dN rfl rfl (aH (aV ⟨_, res3 rfl rfl rfl, ?_⟩)))))))))
 exact ⟨_, _, .ok, pre.length + (w2.out.length + 8), congrArg (fun q : Nat => Value.tuple #[_, .int .i64 q, _]) (by omega), rfl, .inl ⟨w2, rfl, hn, hk2, rfl, by simpa [Nat.add_assoc, List.append_assoc] using hs⟩⟩
theorem po_at0 {ρ : Env} {T e : TypeId} {x xl xh : Operand} {k k' : IntKind} {b len cap : Nat} {lo hi : Int} (i : Nat) (hT : elemSize Tryz.prog T = some (e, 1)) (hx : ev ρ x = some (.slice (some ⟨b, 0, none⟩) len cap)) (hl : ev ρ xl = some (.int k lo)) (hh : ev ρ xh = some (.int k' hi))
  (h1 : lo = i) (h2 : hi = i) (h3 : i < cap) : PO Tryz.prog (.slice T x (some xl) (some xh) none) ρ w (.slice (some ⟨b, i, none⟩) 0 (cap - i)) := by
 subst h1 h2
 have q := po_slice (w := w) hT hx (.yes _ hl (by omega)) (.yes _ hh (by omega)) (by omega) (by omega)
 have e : sliceAddr (some ⟨b, 0, none⟩) (Int.toNat (i : Int)) cap 1 = some ⟨b, i, none⟩ := by
  unfold sliceAddr
  rw [if_neg (by omega)]
  simp [add_at]
 rw [e] at q
 simpa using q
set_option maxHeartbeats 1000000 in
theorem p_fixLen (hG : Gl A V) {rs : List Value} {bytes : List UInt8} (hs : Sl 5 1 ⟨w00, V0, V⟩ w ((bm, tblObj t) :: (br, .cells rs.toArray E (0, 0)) :: L) msg m (bytes.map byteVal)) (hm : m ≤ 549755813888) {lo pl : Nat} (hlo : lo + 2 ≤ m) (hpl : pl ≤ m)
  (hrs : p0 + 260 ≤ rs.length) :
  CallsV Tryz.prog 148 #[.pointer (some ⟨br, p0, none⟩), msg, .int .i64 (lo : Nat), .int .i64 (pl : Nat)] w fun v w' => ∃ k : EK, ErrV A v k ∧
   ((k = .ok ∧ m - pl ≤ 65535 ∧ Sl 5 1 ⟨w00, V0, V⟩ w' ((bm, tblObj t) :: (br, .cells (rs.set (p0 + 259) (.int .u16 (m - pl : Nat))).toArray E (0, 0)) :: L) msg m ((setAt bytes lo (be2 (m - pl))).map byteVal)) ∨
    (k = .other ∧ 65535 < m - pl ∧ St ⟨w00, V0, V⟩ w' ((bm, tblObj t) :: (br, .cells rs.toArray E (0, 0)) :: L))) := by
 obtain ⟨hxl, ⟨_, h0, _⟩ | ⟨g, cap, sp, rfl, hl, hnc, hcm, hg, hs⟩⟩ := hs
 omega
 have hbl : bytes.length = m := by simpa using hxl
 refine aT [_, _, _, _] Tryz.func148 Tryz.ntmps148 Tryz.results148 rfl rfl (dP (dN rfl rfl (aH (dP (dM rfl rfl (lp (bC Tryz.underlying23 rfl) rfl (dM rfl rfl (lp (po_sub rfl rfl (i64c (c := m - pl) (by omega) (by omega))) rfl (dN rfl rfl (aH (aF (dP (dM rfl rfl ?_)))))))))))))
 refine lp (cQ rfl rfl) rfl (aH (bH rfl (fun hc0 => ?_) (fun hc0 => ?_)))
 refine dP (lp (aO rfl (bR k_57 (hG.ld hs.isIn (g := 11) rfl))) rfl (dN rfl rfl (aH (aV ⟨_, res1 rfl, ?_⟩))))
 exact ⟨.other, errv_g rfl (by decide) (by decide), .inr ⟨rfl, by omega, hs.drop hg⟩⟩
 refine aW (dP (dM rfl rfl (dM rfl rfl (dM rfl rfl (lp (po_at0 lo es_23 rfl rfl rfl rfl rfl (by omega)) rfl (dM rfl rfl (lp (bY Tryz.underlying3 Tryz.underlying22 rfl (u16c (c := m - pl) rfl (by omega))) rfl (aZ ok_143 rfl rfl (p_packAt (kk := 0) hs rfl (by omega) (by simp; omega) (m - pl) (by omega) rfl) rfl (fun v23 w HF => ?_)))))))))
 obtain _ := HF
 replace hs := HF
 refine aH (dP (dM rfl rfl (dM rfl rfl (lp (bY Tryz.underlying3 Tryz.underlying22 rfl (u16c (c := m - pl) rfl (by omega))) rfl (lp (aN rfl) rfl (lp (bD fo_112_4 rfl) rfl (aJ (dQ 2 hs k_22 rfl rfl rfl rfl rfl (lset_of _ (by omega)) rfl (fun w hs => aH (dP (dN rfl rfl (aH (aV ⟨_, res1 rfl, ?_⟩)))))))))))))
 have he := setAt_map (l := bytes) (b := be2 (m - pl)) (i := lo) (sp := sp) (by simp [be2]; omega)
 have hb2 : (be2 (m - pl)).length = 2 := rfl
 rw [hb2] at he
 rw [he] at hs
 have hsl := setAt_len (l := bytes) (b := be2 (m - pl)) (i := lo) (by simp [be2]; omega)
 exact ⟨.ok, rfl, .inl ⟨rfl, by omega, ⟨by simp [hsl, hbl], .inr ⟨g, cap, sp, rfl, by simpa [hsl] using hl, hnc, hcm, hg, hs⟩⟩⟩⟩
end
end Go.Proofs.YtgpfjlfkaoffeaaGreatDoor

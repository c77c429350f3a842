/- Packing: questions, headers. Packing: headers of resources, and their lengths put in behind. Packing: bodies. -/
import Derived.Test.YtgpfjlfkaoffeaaGreatDoorR15
import Derived.Test.YtgpfjlfkaoffeaaGreatDoorR07
set_option linter.all false
namespace Go.Proofs.YtgpfjlfkaoffeaaGreatDoor
open Go
def PackQ (A : Nat → Addr) (w00 : World) (V0 V : Vw) (L : List (Nat × Obj)) (bm : Nat) (pre : List UInt8) (R : Option Ink) (v : Value) (w' : World) : Prop :=
 ∃ (mv e : Value) (k : EK), v = .tuple #[mv, e] ∧ ErrV A e k ∧
  ((∃ w2 : Ink, k = .ok ∧ R = some w2 ∧ Keys w2.tbl ∧ Sl 5 1 ⟨w00, V0, V⟩ w' ((bm, eM w2.tbl) :: L) mv (pre.length + w2.out.length) ((pre ++ w2.out).map eA)) ∨
   (k = .other ∧ R = none ∧ ∃ t' : List (List UInt8 × Nat), St ⟨w00, V0, V⟩ w' ((bm, eM t') :: L)))
section
variable {A : Nat → Addr} {V V0 : Vw} {w w00 : World} {L : List (Nat × Obj)} {mv : Value} {k : EK} {bm : Nat} {pre : List UInt8} {R : Option Ink}
theorem PackQ.bad (h : (∃ w2 : Ink, k = .ok ∧ R = some w2 ∧ Keys w2.tbl ∧ Sl 5 1 ⟨w00, V0, V⟩ w ((bm, eM w2.tbl) :: L) mv (pre.length + w2.out.length) ((pre ++ w2.out).map eA)) ∨
  (k = .other ∧ R = none ∧ ∃ t' : List (List UInt8 × Nat), St ⟨w00, V0, V⟩ w ((bm, eM t') :: L))) (hk : k ≠ .ok) : R = none ∧ ∃ t' : List (List UInt8 × Nat), St ⟨w00, V0, V⟩ w ((bm, eM t') :: L) := by
 rcases h with ⟨_, h, _⟩ | h
 exact absurd h hk
 exact h.2
theorem PackQ.good (h : (∃ w2 : Ink, k = .ok ∧ R = some w2 ∧ Keys w2.tbl ∧ Sl 5 1 ⟨w00, V0, V⟩ w ((bm, eM w2.tbl) :: L) mv (pre.length + w2.out.length) ((pre ++ w2.out).map eA)) ∨
  (k = .other ∧ R = none ∧ ∃ t' : List (List UInt8 × Nat), St ⟨w00, V0, V⟩ w ((bm, eM t') :: L))) (hk : ¬ k ≠ .ok) :
  ∃ w2 : Ink, R = some w2 ∧ Keys w2.tbl ∧ Sl 5 1 ⟨w00, V0, V⟩ w ((bm, eM w2.tbl) :: L) mv (pre.length + w2.out.length) ((pre ++ w2.out).map eA) := by
 rcases h with ⟨w2, _, h⟩ | ⟨h, _⟩
 exact ⟨w2, h⟩
 subst h; exact absurd (by decide) hk
theorem PackQ.badF (h : (∃ w2 : Ink, k = .ok ∧ R = some w2 ∧ Keys w2.tbl ∧ Sl 5 1 ⟨w00, V0, V⟩ w L mv (pre.length + w2.out.length) ((pre ++ w2.out).map eA)) ∨
  (k = .other ∧ R = none ∧ ∃ _t : List (List UInt8 × Nat), St ⟨w00, V0, V⟩ w L)) (hk : k ≠ .ok) : R = none ∧ St ⟨w00, V0, V⟩ w L := by
 rcases h with ⟨_, h, _⟩ | ⟨_, h, _, h2⟩
 exact absurd h hk
 exact ⟨h, h2⟩
theorem PackQ.goodF (h : (∃ w2 : Ink, k = .ok ∧ R = some w2 ∧ Keys w2.tbl ∧ Sl 5 1 ⟨w00, V0, V⟩ w L mv (pre.length + w2.out.length) ((pre ++ w2.out).map eA)) ∨
  (k = .other ∧ R = none ∧ ∃ _t : List (List UInt8 × Nat), St ⟨w00, V0, V⟩ w L)) (hk : ¬ k ≠ .ok) :
  ∃ w2 : Ink, R = some w2 ∧ Keys w2.tbl ∧ Sl 5 1 ⟨w00, V0, V⟩ w L mv (pre.length + w2.out.length) ((pre ++ w2.out).map eA) := by
 rcases h with ⟨w2, _, h⟩ | ⟨h, _⟩
 exact ⟨w2, h⟩
 subst h; exact absurd (by decide) hk
end
def askN (s : List UInt8) (ty cl : Nat) (w : Ink) : Option Ink := (nameP true s w).map fun w => w.put (be2 ty ++ be2 cl)
theorem at256 {s : List UInt8} {n : Nat} {r : List Value} (h : s.length ≤ 255) (j : Nat) {u : Value} (hu : r[j]? = some u) : (nmC s n ++ r)[256 + j]? = some u := by
 rw [List.getElem?_append_right (by rw [cM h]; omega), cM h]
 simpa using hu
theorem at0 {s : List UInt8} {n : Nat} {r : List Value} (j : Nat) {u : Value} (hu : (nmC s n)[j]? = some u) : (nmC s n ++ r)[0 + j]? = some u := by
 have hl : j < (nmC s n).length := (List.getElem?_eq_some_iff.1 hu).1
 rw [Nat.zero_add, List.getElem?_append_left hl]; exact hu
section
variable {A : Nat → Addr} {V V0 : Vw} {w w00 : World} {L : List (Nat × Obj)} {msg : Value} {m bm bq p0 : Nat} {pre out s : List UInt8} {t : List (List UInt8 × Nat)}
set_option maxHeartbeats 1000000 in
theorem p_question (hG : Gl A V) (hs : Sl 5 1 ⟨w00, V0, V⟩ w ((bm, eM t) :: L) msg (pre.length + out.length) ((pre ++ out).map eA)) (hm : pre.length + out.length ≤ 274877906944) {ty cl : Nat} (h255 : s.length ≤ 255)
  (hQ : fG ⟨w00, V0, V⟩ L bq p0 (nmC s s.length ++ [.int .u16 ty, .int .u16 cl])) (hty : ty < 65536) (hcl : cl < 65536) (hk : Keys t) :
  eC Tryz.prog 64 #[.pointer (some ⟨bq, p0, none⟩), msg, .map (some bm), .int .i64 (pre.length : Nat)] w fun v w' => ∃ (mv e : Value) (k : EK), v = .tuple #[mv, e] ∧ ErrV A e k ∧
   ((∃ w2 : Ink, k = .ok ∧ askN s ty cl ⟨out, t⟩ = some w2 ∧ Keys w2.tbl ∧ Sl 5 1 ⟨w00, V0, V⟩ w' ((bm, eM w2.tbl) :: L) mv (pre.length + w2.out.length) ((pre ++ w2.out).map eA)) ∨
    (k = .other ∧ askN s ty cl ⟨out, t⟩ = none ∧ ∃ t' : List (List UInt8 × Nat), St ⟨w00, V0, V⟩ w' ((bm, eM t') :: L))) := by
 have hN : NameW ⟨w00, V0, V⟩ L bq p0 s := ⟨h255, hQ.part 0 (fun j u hu => at0 j hu)⟩
 have hM : ∀ {t : List (List UInt8 × Nat)}, ∀ x ∈ L, x ∈ (bm, eM t) :: L := fun x hx => List.mem_cons_of_mem _ hx
 refine aT [_, _, _, _] Tryz.func64 Tryz.ntmps64 Tryz.results64 rfl rfl (dP (dN rfl rfl (dN rfl rfl (aH (dP (dM rfl rfl (lp (aN rfl) rfl (lp (po_fa0' fo_90_0 rfl) rfl (dM rfl rfl (dM rfl rfl (dM rfl rfl (aZ ok_144 rfl rfl (p_nameT hG hs (by omega) hN hk) rfl (fun v18 w HF => ?_)))))))))))))
 obtain ⟨mv, e, k, rfl, he, hr⟩ := HF
 clear hs
 refine dM rfl rfl (dO rfl rfl rfl (dO rfl rfl rfl (dN rfl rfl (dN rfl rfl (aH (aF (dP (dM rfl rfl (lp (bB he rfl) rfl (aH (bH rfl (fun hc0 => ?_) (fun hc0 => ?_))))))))))))
 obtain ⟨hno, t', hs⟩ := PackQ.bad hr hc0
 refine dP (dM rfl rfl (dM rfl rfl (lp (bL rfl (by (simp only [List.all_cons, List.all_nil, he.oneCell]; rfl)) (eI _ _)) rfl (aJ (cR hs rfl rfl rfl (fun b26 w hb26 hbe26 hs => ?_))))))
 replace hs := hs.drop hb26
 refine lp (cG Tryz.underlying139 (fun _ h => by cases h) rfl) rfl (dN rfl rfl (dN rfl rfl (aH (aV ⟨_, fX rfl rfl, ?_⟩))))
 exact ⟨_, _, .other, rfl, dA, .inr ⟨rfl, by unfold askN; rw [hno]; rfl, t', hs⟩⟩
 obtain ⟨w2, hn, hk2, hs⟩ := PackQ.good hr hc0
 have hgrow := eW hn
 simp only at hgrow
 refine aW (dP (dM rfl rfl (dM rfl rfl (lp (aN rfl) rfl (lp (bD fo_90_1 rfl) rfl (lp (aO rfl (bR k_87 (hQ.ld hs.st hM 256 (at256 h255 0 rfl)))) rfl (aZ ok_145 rfl rfl (p_packType hs (by omega) ty hty) rfl (fun v33 w HF => ?_))))))))
 obtain _ := HF
 replace hs := HF
 refine dN rfl rfl (aH (dP (dM rfl rfl (dM rfl rfl (lp (aN rfl) rfl (lp (bD fo_90_2 rfl) rfl (lp (aO rfl (bR k_88 (hQ.ld hs.st hM 257 (at256 h255 1 rfl)))) rfl (aZ ok_146 rfl rfl (p_packClass hs (by omega) cl hcl) rfl (fun v39 w HF => ?_)))))))))
 obtain _ := HF
 replace hs := HF
 refine dN rfl rfl (dN rfl rfl (aH (aV ⟨_, fX rfl rfl, ?_⟩)))
 exact ⟨_, _, .ok, rfl, rfl, .inl ⟨w2.put (be2 ty ++ be2 cl), rfl, by unfold askN; rw [hn]; rfl, hk2, by simpa [Ink.put, be2, Nat.add_assoc] using hs⟩⟩
def hdr6 (a b c d e f : Nat) : List Value := [.int .u16 a, .int .u16 b, .int .u16 c, .int .u16 d, .int .u16 e, .int .u16 f]
set_option maxHeartbeats 1000000 in
theorem p_header (hs : Sl 5 1 ⟨w00, V0, V⟩ w L msg m (out.map eA)) (hm : m ≤ 274877906944) {a b c d e f : Nat} (hQ : fG ⟨w00, V0, V⟩ L bq p0 (hdr6 a b c d e f)) (ha : a < 65536) (hb : b < 65536) (hc : c < 65536) (hd : d < 65536) (he : e < 65536)
  (hf : f < 65536) : eC Tryz.prog 63 #[.pointer (some ⟨bq, p0, none⟩), msg] w fun v w' => Sl 5 1 ⟨w00, V0, V⟩ w' L v (m + 12) ((out ++ (be2 a ++ be2 b ++ be2 c ++ be2 d ++ be2 e ++ be2 f)).map eA) := by
 refine aT [_, _] Tryz.func63 Tryz.ntmps63 Tryz.results63 rfl rfl (dP (dN rfl rfl (aH (dP (dM rfl rfl (dM rfl rfl (lp (aN rfl) rfl (lp (po_fa0' fo_97_0 rfl) rfl (lp (aO rfl (bR eS (hQ.ld hs.st (fun x hx => hx) 0 rfl))) rfl (aZ ok_143 rfl rfl (fI hs (by omega) a ha) rfl (fun v10 w HF => ?_)))))))))))
 obtain _ := HF
 replace hs := HF
 refine dN rfl rfl (aH (dP (dM rfl rfl (dM rfl rfl (lp (aN rfl) rfl (lp (bD fo_97_1 rfl) rfl (lp (aO rfl (bR eS (hQ.ld hs.st (fun x hx => hx) 1 rfl))) rfl (aZ ok_143 rfl rfl (fI hs (by omega) b hb) rfl (fun v16 w HF => ?_)))))))))
 obtain _ := HF
 replace hs := HF
 refine dN rfl rfl (aH (dP (dM rfl rfl (dM rfl rfl (lp (aN rfl) rfl (lp (bD fo_97_2 rfl) rfl (lp (aO rfl (bR eS (hQ.ld hs.st (fun x hx => hx) 2 rfl))) rfl (aZ ok_143 rfl rfl (fI hs (by omega) c hc) rfl (fun v22 w HF => ?_)))))))))
 obtain _ := HF
 replace hs := HF
 refine dN rfl rfl (aH (dP (dM rfl rfl (dM rfl rfl (lp (aN rfl) rfl (lp (bD fo_97_3 rfl) rfl (lp (aO rfl (bR eS (hQ.ld hs.st (fun x hx => hx) 3 rfl))) rfl (aZ ok_143 rfl rfl (fI hs (by omega) d hd) rfl (fun v28 w HF => ?_)))))))))
 obtain _ := HF
 replace hs := HF
 refine dN rfl rfl (aH (dP (dM rfl rfl (dM rfl rfl (lp (aN rfl) rfl (lp (bD fo_97_4 rfl) rfl (lp (aO rfl (bR eS (hQ.ld hs.st (fun x hx => hx) 4 rfl))) rfl (aZ ok_143 rfl rfl (fI hs (by omega) e he) rfl (fun v34 w HF => ?_)))))))))
 obtain _ := HF
 replace hs := HF
 refine dN rfl rfl (aH (dP (dM rfl rfl (dM rfl rfl (lp (aN rfl) rfl (lp (bD fo_97_5 rfl) rfl (lp (aO rfl (bR eS (hQ.ld hs.st (fun x hx => hx) 5 rfl))) rfl (aZ ok_143 rfl rfl (fI hs (by omega) f hf) rfl (fun v40 w HF => ?_)))))))))
 obtain _ := HF
 replace hs := HF
 refine dN rfl rfl (aH (aV ⟨_, fW rfl, ?_⟩))
 simpa [Nat.add_assoc, List.append_assoc] using hs
def fJ (h : PHead) : List Value := [.int .u16 h.id, .bool h.response, .int .u16 h.op, .bool h.authority, .bool h.cut, .bool h.desired, .bool h.available, .bool h.authentic, .bool h.unchecked, .int .u16 h.code]
theorem u16shl11 {a : Nat} (h : a < 32) : IntKind.u16.wrap ((a : Int) * 2 ^ (min (11 : Int).toNat IntKind.u16.bits)) = ((a * 2048 : Nat) : Int) := by
 have : (2 : Int) ^ (min (11 : Int).toNat IntKind.u16.bits) = 2048 := by decide
 rw [this]
 exact u16c (by omega) (by omega)
theorem orIf_t {a n : Nat} {c : Bool} (h : c = true) : orIf c a n = a ||| n := by subst h; rfl
theorem orIf_f {a n : Nat} {c : Bool} (h : c = false) : orIf c a n = a := by subst h; rfl
set_option maxHeartbeats 1000000 in
theorem p_Header {M : List (Nat × Obj)} (hs : St ⟨w00, V0, V⟩ w M) (hM : ∀ x ∈ L, x ∈ M) (h : PHead) (hQ : fG ⟨w00, V0, V⟩ L bq p0 (fJ h)) (hop : h.op < 16) (hco : h.code < 16) :
  eC Tryz.prog 62 #[.pointer (some ⟨bq, p0, none⟩)] w fun v w' => v = .tuple #[.int .u16 h.id, .int .u16 (h.bits : Nat)] ∧ St ⟨w00, V0, V⟩ w' M := by
 have h0 : (h.op * 2048 ||| h.code) < 65536 := Nat.or_lt_two_pow (n := 16) (by omega) (by omega)
 have h1 : (orIf h.available (h.op * 2048 ||| h.code) 128) < 65536 := orIf_lt h0 (by decide)
 have h2 : (orIf h.desired (orIf h.available (h.op * 2048 ||| h.code) 128) 256) < 65536 := orIf_lt h1 (by decide)
 have h3 : (orIf h.cut (orIf h.desired (orIf h.available (h.op * 2048 ||| h.code) 128) 256) 512) < 65536 := orIf_lt h2 (by decide)
 have h4 : (orIf h.authority (orIf h.cut (orIf h.desired (orIf h.available (h.op * 2048 ||| h.code) 128) 256) 512) 1024) < 65536 := orIf_lt h3 (by decide)
 have h5 : (orIf h.response (orIf h.authority (orIf h.cut (orIf h.desired (orIf h.available (h.op * 2048 ||| h.code) 128) 256) 512) 1024) 32768) < 65536 := orIf_lt h4 (by decide)
 have h6 : (orIf h.authentic (orIf h.response (orIf h.authority (orIf h.cut (orIf h.desired (orIf h.available (h.op * 2048 ||| h.code) 128) 256) 512) 1024) 32768) 32) < 65536 := orIf_lt h5 (by decide)
 have h7 : (orIf h.unchecked (orIf h.authentic (orIf h.response (orIf h.authority (orIf h.cut (orIf h.desired (orIf h.available (h.op * 2048 ||| h.code) 128) 256) 512) 1024) 32768) 32) 16) < 65536 := orIf_lt h6 (by decide)
 refine aT [_] Tryz.func62 Tryz.ntmps62 Tryz.results62 rfl rfl (dP (dN rfl rfl (dN rfl rfl (aH (dP (dM rfl rfl (lp (aN rfl) rfl (lp (po_fa0' fo_50_0 rfl) rfl (lp (aO rfl (bR eS (hQ.ld hs hM 0 rfl))) rfl (dN rfl rfl (aH (aF (bV hs [3, 8] mixed (fun w hs => ?_))))))))))))))
 refine dI 0 rfl (fun w => aC rfl) rfl rfl (dI 1 rfl (fun w => aN rfl) rfl rfl (dI 2 rfl (fun w => bD fo_50_2 rfl) rfl rfl (dJ 3 rfl hs rfl (fun w hs => (aO rfl (bR k_47 (hQ.ld hs hM 2 rfl)))) rfl (dI 4 rfl (fun w => (po_shl (c := (h.op * 2048 : Nat)) rfl rfl (by decide) (u16shl11 (by omega)))) rfl rfl (dI 5 rfl (fun w => aC rfl) rfl rfl (dI 6 rfl (fun w => aN rfl) rfl rfl (dI 7 rfl (fun w => bD fo_50_9 rfl) rfl rfl (dJ 8 rfl hs rfl (fun w hs => (aO rfl (bR k_48 (hQ.ld hs hM 9 rfl)))) rfl (dI 9 rfl (fun w => (po_or rfl rfl (u16or (by omega) (by omega)))) rfl rfl (dI 10 rfl (fun w => aD rfl) rfl rfl (bS (by decide +kernel) (dG (fun ρ w => Sub (eH (eH (eH emp 3 (.int .u16 ((orIf h.available (h.op * 2048 ||| h.code) 128) : Nat))) 2 (.int .u16 h.id)) 0 (.pointer (some ⟨bq, p0, none⟩))) ρ ∧ St ⟨w00, V0, V⟩ w M) ?_ ?_))))))))))))
 refine dP (dM rfl rfl (lp (aN rfl) rfl (lp (bD fo_50_6 rfl) rfl (lp (aO rfl (bR k_4 (hQ.ld hs hM 6 rfl))) rfl (aH (bJ rfl (fun hc0 => ?_) (fun hc0 => ?_)))))))
 refine aB (dM rfl rfl (lp (po_or rfl rfl (u16or (b := 128) h0 (by decide))) rfl (dN rfl rfl (aH ?_))))
 exact ⟨aL rfl (aL rfl (aL (congrArg (fun q : Nat => some (Value.int .u16 q)) (orIf_t hc0).symm) (bG _))), hs⟩
 refine aW ?_
 exact ⟨aL rfl (aL rfl (aL (congrArg (fun q : Nat => some (Value.int .u16 q)) (orIf_f hc0).symm) (bG _))), hs⟩
 clear hs
 rintro ρ w ⟨hsub, hs⟩
 refine EW.weaken hsub (dG (fun ρ w => Sub (eH (eH (eH emp 3 (.int .u16 ((orIf h.desired (orIf h.available (h.op * 2048 ||| h.code) 128) 256) : Nat))) 2 (.int .u16 h.id)) 0 (.pointer (some ⟨bq, p0, none⟩))) ρ ∧ St ⟨w00, V0, V⟩ w M) ?_ ?_)
 refine dP (dM rfl rfl (lp (aN rfl) rfl (lp (bD fo_50_5 rfl) rfl (lp (aO rfl (bR k_4 (hQ.ld hs hM 5 rfl))) rfl (aH (bJ rfl (fun hc1 => ?_) (fun hc1 => ?_)))))))
 refine aB (dM rfl rfl (lp (po_or rfl rfl (u16or (b := 256) h1 (by decide))) rfl (dN rfl rfl (aH ?_))))
 exact ⟨aL rfl (aL rfl (aL (congrArg (fun q : Nat => some (Value.int .u16 q)) (orIf_t hc1).symm) (bG _))), hs⟩
 refine aW ?_
 exact ⟨aL rfl (aL rfl (aL (congrArg (fun q : Nat => some (Value.int .u16 q)) (orIf_f hc1).symm) (bG _))), hs⟩
 clear hs
 rintro ρ w ⟨hsub, hs⟩
 refine EW.weaken hsub (dG (fun ρ w => Sub (eH (eH (eH emp 3 (.int .u16 ((orIf h.cut (orIf h.desired (orIf h.available (h.op * 2048 ||| h.code) 128) 256) 512) : Nat))) 2 (.int .u16 h.id)) 0 (.pointer (some ⟨bq, p0, none⟩))) ρ ∧ St ⟨w00, V0, V⟩ w M) ?_ ?_)
 refine dP (dM rfl rfl (lp (aN rfl) rfl (lp (bD fo_50_4 rfl) rfl (lp (aO rfl (bR k_4 (hQ.ld hs hM 4 rfl))) rfl (aH (bJ rfl (fun hc2 => ?_) (fun hc2 => ?_)))))))
 refine aB (dM rfl rfl (lp (po_or rfl rfl (u16or (b := 512) h2 (by decide))) rfl (dN rfl rfl (aH ?_))))
 exact ⟨aL rfl (aL rfl (aL (congrArg (fun q : Nat => some (Value.int .u16 q)) (orIf_t hc2).symm) (bG _))), hs⟩
 refine aW ?_
 exact ⟨aL rfl (aL rfl (aL (congrArg (fun q : Nat => some (Value.int .u16 q)) (orIf_f hc2).symm) (bG _))), hs⟩
 clear hs
 rintro ρ w ⟨hsub, hs⟩
 refine EW.weaken hsub (dG (fun ρ w => Sub (eH (eH (eH emp 3 (.int .u16 ((orIf h.authority (orIf h.cut (orIf h.desired (orIf h.available (h.op * 2048 ||| h.code) 128) 256) 512) 1024) : Nat))) 2 (.int .u16 h.id)) 0 (.pointer (some ⟨bq, p0, none⟩))) ρ ∧ St ⟨w00, V0, V⟩ w M) ?_ ?_)
 refine dP (dM rfl rfl (lp (aN rfl) rfl (lp (bD fo_50_3 rfl) rfl (lp (aO rfl (bR k_4 (hQ.ld hs hM 3 rfl))) rfl (aH (bJ rfl (fun hc3 => ?_) (fun hc3 => ?_)))))))
 refine aB (dM rfl rfl (lp (po_or rfl rfl (u16or (b := 1024) h3 (by decide))) rfl (dN rfl rfl (aH ?_))))
 exact ⟨aL rfl (aL rfl (aL (congrArg (fun q : Nat => some (Value.int .u16 q)) (orIf_t hc3).symm) (bG _))), hs⟩
 refine aW ?_
 exact ⟨aL rfl (aL rfl (aL (congrArg (fun q : Nat => some (Value.int .u16 q)) (orIf_f hc3).symm) (bG _))), hs⟩
 clear hs
 rintro ρ w ⟨hsub, hs⟩
 refine EW.weaken hsub (dG (fun ρ w => Sub (eH (eH (eH emp 3 (.int .u16 ((orIf h.response (orIf h.authority (orIf h.cut (orIf h.desired (orIf h.available (h.op * 2048 ||| h.code) 128) 256) 512) 1024) 32768) : Nat))) 2 (.int .u16 h.id)) 0 (.pointer (some ⟨bq, p0, none⟩))) ρ ∧ St ⟨w00, V0, V⟩ w M) ?_ ?_)
 refine dP (dM rfl rfl (lp (aN rfl) rfl (lp (bD fo_50_1 rfl) rfl (lp (aO rfl (bR k_4 (hQ.ld hs hM 1 rfl))) rfl (aH (bJ rfl (fun hc4 => ?_) (fun hc4 => ?_)))))))
 refine aB (dM rfl rfl (lp (po_or rfl rfl (u16or (b := 32768) h4 (by decide))) rfl (dN rfl rfl (aH ?_))))
 exact ⟨aL rfl (aL rfl (aL (congrArg (fun q : Nat => some (Value.int .u16 q)) (orIf_t hc4).symm) (bG _))), hs⟩
 refine aW ?_
 exact ⟨aL rfl (aL rfl (aL (congrArg (fun q : Nat => some (Value.int .u16 q)) (orIf_f hc4).symm) (bG _))), hs⟩
 clear hs
 rintro ρ w ⟨hsub, hs⟩
 refine EW.weaken hsub (dG (fun ρ w => Sub (eH (eH (eH emp 3 (.int .u16 ((orIf h.authentic (orIf h.response (orIf h.authority (orIf h.cut (orIf h.desired (orIf h.available (h.op * 2048 ||| h.code) 128) 256) 512) 1024) 32768) 32) : Nat))) 2 (.int .u16 h.id)) 0 (.pointer (some ⟨bq, p0, none⟩))) ρ ∧ St ⟨w00, V0, V⟩ w M) ?_ ?_)
 refine dP (dM rfl rfl (lp (aN rfl) rfl (lp (bD fo_50_7 rfl) rfl (lp (aO rfl (bR k_4 (hQ.ld hs hM 7 rfl))) rfl (aH (bJ rfl (fun hc5 => ?_) (fun hc5 => ?_)))))))
 refine aB (dM rfl rfl (lp (po_or rfl rfl (u16or (b := 32) h5 (by decide))) rfl (dN rfl rfl (aH ?_))))
 exact ⟨aL rfl (aL rfl (aL (congrArg (fun q : Nat => some (Value.int .u16 q)) (orIf_t hc5).symm) (bG _))), hs⟩
 refine aW ?_
 exact ⟨aL rfl (aL rfl (aL (congrArg (fun q : Nat => some (Value.int .u16 q)) (orIf_f hc5).symm) (bG _))), hs⟩
 clear hs
 rintro ρ w ⟨hsub, hs⟩
 refine EW.weaken hsub (dG (fun ρ w => Sub (eH (eH (eH emp 3 (.int .u16 ((orIf h.unchecked (orIf h.authentic (orIf h.response (orIf h.authority (orIf h.cut (orIf h.desired (orIf h.available (h.op * 2048 ||| h.code) 128) 256) 512) 1024) 32768) 32) 16) : Nat))) 2 (.int .u16 h.id)) 0 (.pointer (some ⟨bq, p0, none⟩))) ρ ∧ St ⟨w00, V0, V⟩ w M) ?_ ?_)
 refine dP (dM rfl rfl (lp (aN rfl) rfl (lp (bD fo_50_8 rfl) rfl (lp (aO rfl (bR k_4 (hQ.ld hs hM 8 rfl))) rfl (aH (bJ rfl (fun hc6 => ?_) (fun hc6 => ?_)))))))
 refine aB (dM rfl rfl (lp (po_or rfl rfl (u16or (b := 16) h6 (by decide))) rfl (dN rfl rfl (aH ?_))))
 exact ⟨aL rfl (aL rfl (aL (congrArg (fun q : Nat => some (Value.int .u16 q)) (orIf_t hc6).symm) (bG _))), hs⟩
 refine aW ?_
 exact ⟨aL rfl (aL rfl (aL (congrArg (fun q : Nat => some (Value.int .u16 q)) (orIf_f hc6).symm) (bG _))), hs⟩
 clear hs
 rintro ρ w ⟨hsub, hs⟩
 refine EW.weaken hsub (aV ⟨_, fX rfl rfl, ?_⟩)
 exact ⟨rfl, hs⟩
end
end Go.Proofs.YtgpfjlfkaoffeaaGreatDoor
namespace Go.Proofs.YtgpfjlfkaoffeaaGreatDoor
open Go
theorem setAt_map {l b : List UInt8} {i : Nat} {sp : List Value} (h : i + b.length ≤ l.length) :
  (l.map eA ++ sp).take i ++ b.map eA ++ (l.map eA ++ sp).drop (i + b.length) = (setAt l i b).map eA ++ sp := by
 unfold setAt
 rw [List.take_append_of_le_length (by simp; omega), List.drop_append_of_le_length (by simp; omega)]
 simp [List.map_take, List.map_drop]
theorem setAt_len {l b : List UInt8} {i : Nat} (h : i + b.length ≤ l.length) : (setAt l i b).length = l.length := by
 unfold setAt
 simp
 omega
section
variable {A : Nat → Addr} {V V0 : Vw} {w w00 : World} {L M M' : List (Nat × Obj)} {msg : Value} {m bm br p0 g q c kk : Nat} {pre out s : List UInt8} {t : List (List UInt8 × Nat)} {E : TypeId} {l : List Value}
theorem p_packAt (hs : St ⟨w00, V0, V⟩ w M) (hk : lget M kk = some (g, .cells l.toArray E (0, 0))) (hc : 2 ≤ c) (hq : q + 2 ≤ l.length) (x : Nat) (hx : x < 65536)
  (hL : lset M kk (g, .cells (l.take q ++ (be2 x).map eA ++ l.drop (q + 2)).toArray E (0, 0)) = some M') :
  eC Tryz.prog 143 #[.slice (some ⟨g, q, none⟩) 0 c, .int .u16 x] w fun _ w' => St ⟨w00, V0, V⟩ w' M' := by
 refine aT [_, _] Tryz.func143 Tryz.ntmps143 Tryz.results143 rfl rfl (dP (dN rfl rfl (aH (dP (dM rfl rfl (dM rfl rfl (lp (po_shr (c := (x / 256 : Nat)) rfl rfl (by decide) (u16sh (k := 8) (n := x))) rfl (lp (bY Tryz.underlying22 Tryz.underlying5 rfl (u16hi hx)) rfl (dM rfl rfl (lp (bY Tryz.underlying22 Tryz.underlying5 rfl u8lo) rfl (l_appAt (be2 x) el_23 hs (fun _ => rfl) rfl rfl rfl (by decide) (by decide) hk hc hq hL rfl rfl (fun b11 w hs => ?_))))))))))))
 skip
 refine dN rfl rfl (aH (aV ⟨_, fW rfl, ?_⟩))
 exact hs
def rhdC (s : List UInt8) (ty cl ttl len : Nat) : List Value := nmC s s.length ++ [.int .u16 ty, .int .u16 cl, .int .u32 ttl, .int .u16 len]
set_option maxHeartbeats 1000000 in
theorem p_rheader (hG : Gl A V) (hs : Sl 5 1 ⟨w00, V0, V⟩ w ((bm, eM t) :: L) msg (pre.length + out.length) ((pre ++ out).map eA)) (hm : pre.length + out.length ≤ 274877906944) {ty cl ttl len : Nat} (h255 : s.length ≤ 255)
  (hQ : fG ⟨w00, V0, V⟩ L br p0 (rhdC s ty cl ttl len)) (hty : ty < 65536) (hcl : cl < 65536) (hlen : len < 65536) (hk : Keys t) :
  eC Tryz.prog 147 #[.pointer (some ⟨br, p0, none⟩), msg, .map (some bm), .int .i64 (pre.length : Nat)] w fun v w' => ∃ (mv e : Value) (k : EK) (o : Nat), v = .tuple #[mv, .int .i64 o, e] ∧ ErrV A e k ∧
   ((∃ w2 : Ink, k = .ok ∧ nameP true s ⟨out, t⟩ = some w2 ∧ Keys w2.tbl ∧ o = pre.length + (w2.out.length + 8) ∧
     Sl 5 1 ⟨w00, V0, V⟩ w' ((bm, eM w2.tbl) :: L) mv (pre.length + (w2.out.length + 10)) ((pre ++ (w2.out ++ (be2 ty ++ be2 cl ++ be4 ttl ++ be2 len))).map eA)) ∨
    (k = .other ∧ nameP true s ⟨out, t⟩ = none ∧ ∃ t' : List (List UInt8 × Nat), St ⟨w00, V0, V⟩ w' ((bm, eM t') :: L))) := by
 have hN : NameW ⟨w00, V0, V⟩ L br p0 s := ⟨h255, hQ.part 0 (fun j u hu => at0 j hu)⟩
 have hM : ∀ {t : List (List UInt8 × Nat)}, ∀ x ∈ L, x ∈ (bm, eM t) :: L := fun x hx => List.mem_cons_of_mem _ hx
 refine aT [_, _, _, _] Tryz.func147 Tryz.ntmps147 Tryz.results147 rfl rfl (dP (dN rfl rfl (dN rfl rfl (dN rfl rfl (aH (dP (dM rfl rfl (dN rfl rfl (aH (aF (dP (dM rfl rfl (lp (aN rfl) rfl ?_)))))))))))))
 refine lp (po_fa0' fo_112_0 rfl) rfl (dM rfl rfl (dM rfl rfl (dM rfl rfl (aZ ok_144 rfl rfl (p_nameT hG hs (by omega) hN hk) rfl (fun v19 w HF => ?_)))))
 obtain ⟨mv, e, k, rfl, he, hr⟩ := HF
 clear hs
 refine dM rfl rfl (dO rfl rfl rfl (dO rfl rfl rfl (dN rfl rfl (dN rfl rfl (aH (dP (dM rfl rfl (lp (bB he rfl) rfl (aH (bH rfl (fun hc0 => ?_) (fun hc0 => ?_)))))))))))
 obtain ⟨hno, t', hs⟩ := PackQ.bad hr hc0
 refine dP (dM rfl rfl (dM rfl rfl (lp (bL rfl (by (simp only [List.all_cons, List.all_nil, he.oneCell]; rfl)) (eI _ _)) rfl (aJ (cR hs rfl rfl rfl (fun b27 w hb27 hbe27 hs => ?_))))))
 replace hs := hs.drop hb27
 refine lp (cG Tryz.underlying139 (fun _ h => by cases h) rfl) rfl (dN rfl rfl (dN rfl rfl (dN rfl rfl (aH (aV ⟨_, res3 rfl rfl rfl, ?_⟩)))))
 exact ⟨_, _, .other, 0, rfl, dA, .inr ⟨rfl, hno, t', hs⟩⟩
 obtain ⟨w2, hn, hk2, hs⟩ := PackQ.good hr hc0
 have hgrow := eW hn
 simp only at hgrow
 refine aW (dP (dM rfl rfl (dM rfl rfl (lp (aN rfl) rfl (lp (bD fo_112_1 rfl) rfl (lp (aO rfl (bR k_87 (hQ.ld hs.st hM 256 (at256 h255 0 rfl)))) rfl (aZ ok_145 rfl rfl (p_packType hs (by omega) ty hty) rfl (fun v34 w HF => ?_))))))))
 obtain _ := HF
 replace hs := HF
 refine dN rfl rfl (aH (dP (dM rfl rfl (dM rfl rfl (lp (aN rfl) rfl (lp (bD fo_112_2 rfl) rfl (lp (aO rfl (bR k_88 (hQ.ld hs.st hM 257 (at256 h255 1 rfl)))) rfl (aZ ok_146 rfl rfl (p_packClass hs (by omega) cl hcl) rfl (fun v40 w HF => ?_)))))))))
 obtain _ := HF
 replace hs := HF
 refine dN rfl rfl (aH (dP (dM rfl rfl (dM rfl rfl (lp (aN rfl) rfl (lp (bD fo_112_3 rfl) rfl (lp (aO rfl (bR cB (hQ.ld hs.st hM 258 (at256 h255 2 rfl)))) rfl (aZ ok_187 rfl rfl (p_packUint32 hs (by omega) ttl) rfl (fun v46 w HF => ?_)))))))))
 obtain _ := HF
 replace hs := HF
 obtain ⟨sa, scap, rfl⟩ := hs.size
 refine dN rfl rfl (aH (dP (dM rfl rfl (lp (bC Tryz.underlying23 rfl) rfl (dN rfl rfl (aH (dP (dM rfl rfl (dM rfl rfl (lp (aN rfl) rfl (lp (bD fo_112_4 rfl) rfl (lp (aO rfl (bR eS (hQ.ld hs.st hM 259 (at256 h255 3 rfl)))) rfl (aZ ok_143 rfl rfl (fI hs (by omega) len hlen) rfl (fun v54 w HF => ?_))))))))))))))
 obtain _ := HF
 replace hs := HF
 refine dN rfl rfl (aH (dP (dM rfl rfl (dM rfl rfl (dN rfl rfl (dN rfl rfl (dN rfl rfl (aH (aV ⟨_, res3 rfl rfl rfl, ?_⟩)))))))))
 exact ⟨_, _, .ok, pre.length + (w2.out.length + 8), congrArg (fun q : Nat => Value.tuple #[_, .int .i64 q, _]) (by omega), rfl, .inl ⟨w2, rfl, hn, hk2, rfl, by simpa [Nat.add_assoc, List.append_assoc] using hs⟩⟩
theorem po_at0 {ρ : Env} {T e : TypeId} {x xl xh : Operand} {k k' : IntKind} {b len cap : Nat} {lo hi : Int} (i : Nat) (hT : fK Tryz.prog T = some (e, 1)) (hx : ev ρ x = some (.slice (some ⟨b, 0, none⟩) len cap)) (hl : ev ρ xl = some (.int k lo)) (hh : ev ρ xh = some (.int k' hi))
  (h1 : lo = i) (h2 : hi = i) (h3 : i < cap) : PO Tryz.prog (.slice T x (some xl) (some xh) none) ρ w (.slice (some ⟨b, i, none⟩) 0 (cap - i)) := by
 subst h1 h2
 have q := po_slice (w := w) hT hx (.yes _ hl (by omega)) (.yes _ hh (by omega)) (by omega) (by omega)
 have e : sliceAddr (some ⟨b, 0, none⟩) (Int.toNat (i : Int)) cap 1 = some ⟨b, i, none⟩ := by
  unfold sliceAddr
  rw [if_neg (by omega)]
  simp [add_at]
 rw [e] at q
 simpa using q
set_option maxHeartbeats 1000000 in
theorem p_fixLen (hG : Gl A V) {rs : List Value} {bytes : List UInt8} (hs : Sl 5 1 ⟨w00, V0, V⟩ w ((bm, eM t) :: (br, .cells rs.toArray E (0, 0)) :: L) msg m (bytes.map eA)) (hm : m ≤ 549755813888) {lo pl : Nat} (hlo : lo + 2 ≤ m) (hpl : pl ≤ m)
  (hrs : p0 + 260 ≤ rs.length) :
  eC Tryz.prog 148 #[.pointer (some ⟨br, p0, none⟩), msg, .int .i64 (lo : Nat), .int .i64 (pl : Nat)] w fun v w' => ∃ k : EK, ErrV A v k ∧
   ((k = .ok ∧ m - pl ≤ 65535 ∧ Sl 5 1 ⟨w00, V0, V⟩ w' ((bm, eM t) :: (br, .cells (rs.set (p0 + 259) (.int .u16 (m - pl : Nat))).toArray E (0, 0)) :: L) msg m ((setAt bytes lo (be2 (m - pl))).map eA)) ∨
    (k = .other ∧ 65535 < m - pl ∧ St ⟨w00, V0, V⟩ w' ((bm, eM t) :: (br, .cells rs.toArray E (0, 0)) :: L))) := by
 obtain ⟨hxl, ⟨_, h0, _⟩ | ⟨g, cap, sp, rfl, hl, hnc, hcm, hg, hs⟩⟩ := hs
 omega
 have hbl : bytes.length = m := by simpa using hxl
 refine aT [_, _, _, _] Tryz.func148 Tryz.ntmps148 Tryz.results148 rfl rfl (dP (dN rfl rfl (aH (dP (dM rfl rfl (lp (bC Tryz.underlying23 rfl) rfl (dM rfl rfl (lp (po_sub rfl rfl (fV (c := m - pl) (by omega) (by omega))) rfl (dN rfl rfl (aH (aF (dP (dM rfl rfl ?_)))))))))))))
 refine lp (cQ rfl rfl) rfl (aH (bH rfl (fun hc0 => ?_) (fun hc0 => ?_)))
 refine dP (lp (aO rfl (bR k_57 (hG.ld hs.isIn (g := 11) rfl))) rfl (dN rfl rfl (aH (aV ⟨_, fW rfl, ?_⟩))))
 exact ⟨.other, errv_g rfl (by decide) (by decide), .inr ⟨rfl, by omega, hs.drop hg⟩⟩
 refine aW (dP (dM rfl rfl (dM rfl rfl (dM rfl rfl (lp (po_at0 lo es_23 rfl rfl rfl rfl rfl (by omega)) rfl (dM rfl rfl (lp (bY Tryz.underlying3 Tryz.underlying22 rfl (u16c (c := m - pl) rfl (by omega))) rfl (aZ ok_143 rfl rfl (p_packAt (kk := 0) hs rfl (by omega) (by simp; omega) (m - pl) (by omega) rfl) rfl (fun v23 w HF => ?_)))))))))
 obtain _ := HF
 replace hs := HF
 refine aH (dP (dM rfl rfl (dM rfl rfl (lp (bY Tryz.underlying3 Tryz.underlying22 rfl (u16c (c := m - pl) rfl (by omega))) rfl (lp (aN rfl) rfl (lp (bD fo_112_4 rfl) rfl (aJ (dQ 2 hs eS rfl rfl rfl rfl rfl (lset_of _ (by omega)) rfl (fun w hs => aH (dP (dN rfl rfl (aH (aV ⟨_, fW rfl, ?_⟩)))))))))))))
 have he := setAt_map (l := bytes) (b := be2 (m - pl)) (i := lo) (sp := sp) (by simp [be2]; omega)
 have hb2 : (be2 (m - pl)).length = 2 := rfl
 rw [hb2] at he
 rw [he] at hs
 have hsl := setAt_len (l := bytes) (b := be2 (m - pl)) (i := lo) (by simp [be2]; omega)
 exact ⟨.ok, rfl, .inl ⟨rfl, by omega, ⟨by simp [hsl, hbl], .inr ⟨g, cap, sp, rfl, by simpa [hsl] using hl, hnc, hcm, hg, hs⟩⟩⟩⟩
end
end Go.Proofs.YtgpfjlfkaoffeaaGreatDoor
namespace Go.Proofs.YtgpfjlfkaoffeaaGreatDoor
open Go
section
variable {A : Nat → Addr} {V V0 : Vw} {w w00 : World} {L : List (Nat × Obj)} {msg e : Value} {k : EK} {bm bb p0 : Nat} {pre out s : List UInt8} {t : List (List UInt8 × Nat)} {R : Option Ink} {mv : Value}
theorem nameF_tbl {w2 w : Ink} (h : nameP false s w = some w2) : w2.tbl = w.tbl := by
 rw [nameP_F] at h
 obtain ⟨b, _, rfl⟩ := Option.map_eq_some_iff.1 h
 rfl
theorem po_sliceAll {ρ : Env} {T e : TypeId} {x : Operand} {k len cap : Nat} {a : Option Addr} (hT : fK Tryz.prog T = some (e, k)) (hx : ev ρ x = some (.slice a len cap)) (hc : len ≤ cap) : PO Tryz.prog (.slice T x none none none) ρ w (.slice a len cap) := by
 have q := po_slice (w := w) hT hx (.no _) (.no _) (Nat.zero_le _) hc
 have e : sliceAddr a 0 cap k = a := by
  unfold sliceAddr
  split
  rfl
  cases a with
  | none => rfl
  | some v => simp [Addr.add]
 rw [e] at q
 simpa using q
theorem Sl.more {B : Base} {n : Nat} {news : List UInt8} (h : Sl 5 1 B w L mv (pre.length + out.length + n) ((pre ++ out ++ news).map eA)) (hn : news.length = n) : Sl 5 1 B w L mv (pre.length + (out ++ news).length) ((pre ++ (out ++ news)).map eA) := by
 subst hn
 simpa [Nat.add_assoc, List.append_assoc] using h
set_option maxHeartbeats 1000000 in
theorem p_bodyA (hG : Gl A V) (hs : Sl 5 1 ⟨w00, V0, V⟩ w ((bm, eM t) :: L) msg (pre.length + out.length) ((pre ++ out).map eA)) (hm : pre.length + out.length ≤ 137438953472) (hk : Keys t) {d : List UInt8} (hd : d.length = 4) (hB : fG ⟨w00, V0, V⟩ L bb p0 (d.map eA)) :
  eC Tryz.prog 224 #[.pointer (some ⟨bb, p0, none⟩), msg, .map (some bm), .int .i64 (pre.length : Nat)] w (PackQ A w00 V0 V L bm pre (some ((⟨out, t⟩ : Ink).put d))) := by
 have hM : ∀ {t : List (List UInt8 × Nat)}, ∀ x ∈ L, x ∈ (bm, eM t) :: L := fun x hx => List.mem_cons_of_mem _ hx
 refine aT [_, _, _, _] Tryz.func224 Tryz.ntmps224 Tryz.results224 rfl rfl (dP (dN rfl rfl (dN rfl rfl (aH (aF ?_)))))
 have hsrc : Src Tryz.prog w 1 (.slice (some ⟨bb, p0, none⟩) 4 4) d.length (d.map eA) := by rw [hd]; exact src_slice (by simp [hd]) (fun j v hv => hB.ld hs.st hM j hv)
 refine aB (dM rfl rfl (dM rfl rfl (lp (aN rfl) rfl (lp (po_fa0' fo_157_0 rfl) rfl (lp (po_slice_arrA ar_155 (by decide) rfl) rfl (aZ ok_226 rfl rfl (p_packBytes (l := d) hs (by omega) hsrc (by omega)) rfl (fun v15 w HF => ?_)))))))
 obtain _ := HF
 replace hs := HF
 refine dN rfl rfl (dN rfl rfl (aH (aV ⟨_, fX rfl rfl, ?_⟩)))
 exact ⟨_, _, .ok, rfl, rfl, .inl ⟨(⟨out, t⟩ : Ink).put d, rfl, rfl, hk, Sl.more hs rfl⟩⟩
set_option maxHeartbeats 1000000 in
theorem p_bodyAAAA (hG : Gl A V) (hs : Sl 5 1 ⟨w00, V0, V⟩ w ((bm, eM t) :: L) msg (pre.length + out.length) ((pre ++ out).map eA)) (hm : pre.length + out.length ≤ 137438953472) (hk : Keys t) {d : List UInt8} (hd : d.length = 16) (hB : fG ⟨w00, V0, V⟩ L bb p0 (d.map eA)) :
  eC Tryz.prog 247 #[.pointer (some ⟨bb, p0, none⟩), msg, .map (some bm), .int .i64 (pre.length : Nat)] w (PackQ A w00 V0 V L bm pre (some ((⟨out, t⟩ : Ink).put d))) := by
 have hM : ∀ {t : List (List UInt8 × Nat)}, ∀ x ∈ L, x ∈ (bm, eM t) :: L := fun x hx => List.mem_cons_of_mem _ hx
 refine aT [_, _, _, _] Tryz.func247 Tryz.ntmps247 Tryz.results247 rfl rfl (dP (dN rfl rfl (dN rfl rfl (aH (aF ?_)))))
 have hsrc : Src Tryz.prog w 1 (.slice (some ⟨bb, p0, none⟩) 16 16) d.length (d.map eA) := by rw [hd]; exact src_slice (by simp [hd]) (fun j v hv => hB.ld hs.st hM j hv)
 refine aB (dM rfl rfl (dM rfl rfl (lp (aN rfl) rfl (lp (po_fa0' fo_194_0 rfl) rfl (lp (po_slice_arrA ar_192 (by decide) rfl) rfl (aZ ok_226 rfl rfl (p_packBytes (l := d) hs (by omega) hsrc (by omega)) rfl (fun v15 w HF => ?_)))))))
 obtain _ := HF
 replace hs := HF
 refine dN rfl rfl (dN rfl rfl (aH (aV ⟨_, fX rfl rfl, ?_⟩)))
 exact ⟨_, _, .ok, rfl, rfl, .inl ⟨(⟨out, t⟩ : Ink).put d, rfl, rfl, hk, Sl.more hs rfl⟩⟩
theorem p_bodyNS (hG : Gl A V) (hs : Sl 5 1 ⟨w00, V0, V⟩ w ((bm, eM t) :: L) msg (pre.length + out.length) ((pre ++ out).map eA)) (hm : pre.length + out.length ≤ 137438953472) (hk : Keys t) (h255 : s.length ≤ 255) (hB : fG ⟨w00, V0, V⟩ L bb p0 (nmC s s.length)) :
  eC Tryz.prog 228 #[.pointer (some ⟨bb, p0, none⟩), msg, .map (some bm), .int .i64 (pre.length : Nat)] w (PackQ A w00 V0 V L bm pre (nameP true s ⟨out, t⟩)) := by
 refine aT [_, _, _, _] Tryz.func228 Tryz.ntmps228 Tryz.results228 rfl rfl (dP (dN rfl rfl (dN rfl rfl (aH (dP (dM rfl rfl (lp (aN rfl) rfl (lp (po_fa0' fo_163_0 rfl) rfl (dM rfl rfl (dM rfl rfl (dM rfl rfl (aZ ok_144 rfl rfl (p_nameT hG hs (by omega) ⟨h255, hB⟩ hk) rfl (fun v16 w HF => ?_)))))))))))))
 obtain ⟨mv, e, k, rfl, he, hr⟩ := HF
 refine dO rfl rfl rfl (dO rfl rfl rfl (dN rfl rfl (dN rfl rfl (aH (aV ⟨_, fX rfl rfl, ?_⟩)))))
 exact ⟨_, _, k, rfl, he, hr⟩
theorem p_bodyCNAME (hG : Gl A V) (hs : Sl 5 1 ⟨w00, V0, V⟩ w ((bm, eM t) :: L) msg (pre.length + out.length) ((pre ++ out).map eA)) (hm : pre.length + out.length ≤ 137438953472) (hk : Keys t) (h255 : s.length ≤ 255) (hB : fG ⟨w00, V0, V⟩ L bb p0 (nmC s s.length)) :
  eC Tryz.prog 231 #[.pointer (some ⟨bb, p0, none⟩), msg, .map (some bm), .int .i64 (pre.length : Nat)] w (PackQ A w00 V0 V L bm pre (nameP true s ⟨out, t⟩)) := by
 refine aT [_, _, _, _] Tryz.func231 Tryz.ntmps231 Tryz.results231 rfl rfl (dP (dN rfl rfl (dN rfl rfl (aH (dP (dM rfl rfl (lp (aN rfl) rfl (lp (po_fa0' fo_168_0 rfl) rfl (dM rfl rfl (dM rfl rfl (dM rfl rfl (aZ ok_144 rfl rfl (p_nameT hG hs (by omega) ⟨h255, hB⟩ hk) rfl (fun v16 w HF => ?_)))))))))))))
 obtain ⟨mv, e, k, rfl, he, hr⟩ := HF
 refine dO rfl rfl rfl (dO rfl rfl rfl (dN rfl rfl (dN rfl rfl (aH (aV ⟨_, fX rfl rfl, ?_⟩)))))
 exact ⟨_, _, k, rfl, he, hr⟩
theorem p_bodyPTR (hG : Gl A V) (hs : Sl 5 1 ⟨w00, V0, V⟩ w ((bm, eM t) :: L) msg (pre.length + out.length) ((pre ++ out).map eA)) (hm : pre.length + out.length ≤ 137438953472) (hk : Keys t) (h255 : s.length ≤ 255) (hB : fG ⟨w00, V0, V⟩ L bb p0 (nmC s s.length)) :
  eC Tryz.prog 237 #[.pointer (some ⟨bb, p0, none⟩), msg, .map (some bm), .int .i64 (pre.length : Nat)] w (PackQ A w00 V0 V L bm pre (nameP true s ⟨out, t⟩)) := by
 refine aT [_, _, _, _] Tryz.func237 Tryz.ntmps237 Tryz.results237 rfl rfl (dP (dN rfl rfl (dN rfl rfl (aH (dP (dM rfl rfl (lp (aN rfl) rfl (lp (po_fa0' fo_178_0 rfl) rfl (dM rfl rfl (dM rfl rfl (dM rfl rfl (aZ ok_144 rfl rfl (p_nameT hG hs (by omega) ⟨h255, hB⟩ hk) rfl (fun v16 w HF => ?_)))))))))))))
 obtain ⟨mv, e, k, rfl, he, hr⟩ := HF
 refine dO rfl rfl rfl (dO rfl rfl rfl (dN rfl rfl (dN rfl rfl (aH (aV ⟨_, fX rfl rfl, ?_⟩)))))
 exact ⟨_, _, k, rfl, he, hr⟩
set_option maxHeartbeats 1000000 in
theorem p_bodyMX (hG : Gl A V) (hs : Sl 5 1 ⟨w00, V0, V⟩ w ((bm, eM t) :: L) msg (pre.length + out.length) ((pre ++ out).map eA)) (hm : pre.length + out.length ≤ 137438953472) (hk : Keys t) (h255 : s.length ≤ 255) {n1 : Nat} (hn1 : n1 < 65536) (hB : fG ⟨w00, V0, V⟩ L bb p0 (.int .u16 n1 :: nmC s s.length)) :
  eC Tryz.prog 240 #[.pointer (some ⟨bb, p0, none⟩), msg, .map (some bm), .int .i64 (pre.length : Nat)] w (PackQ A w00 V0 V L bm pre (nameP true s ((⟨out, t⟩ : Ink).put (be2 n1)))) := by
 have hM : ∀ {t : List (List UInt8 × Nat)}, ∀ x ∈ L, x ∈ (bm, eM t) :: L := fun x hx => List.mem_cons_of_mem _ hx
 have hN : NameW ⟨w00, V0, V⟩ L bb (p0 + 1) s := ⟨h255, hB.part 1 (fun j u hu => by rw [Nat.add_comm]; exact hu)⟩
 refine aT [_, _, _, _] Tryz.func240 Tryz.ntmps240 Tryz.results240 rfl rfl (dP (dN rfl rfl (dN rfl rfl (aH (dP (dM rfl rfl (dN rfl rfl (aH (dP (dM rfl rfl (dM rfl rfl (lp (aN rfl) rfl (lp (po_fa0' fo_183_0 rfl) rfl ?_)))))))))))))
 refine lp (aO rfl (bR eS (hB.ld hs.st hM 0 rfl))) rfl (aZ ok_143 rfl rfl (fI hs (by omega) n1 hn1) rfl (fun v18 w HF => ?_))
 obtain _ := HF
 replace hs := Sl.more HF rfl
 refine dN rfl rfl (aH (dP (dM rfl rfl (lp (aN rfl) rfl (lp (bD fo_183_1 rfl) rfl (dM rfl rfl (dM rfl rfl (dM rfl rfl (aZ ok_144 rfl rfl (p_nameT hG hs (by simp [be2]; omega) hN hk) rfl (fun v26 w HF => ?_))))))))))
 obtain ⟨mv, e, k, rfl, he, hr⟩ := HF
 clear hs
 refine dM rfl rfl (dO rfl rfl rfl (dO rfl rfl rfl (dN rfl rfl (dN rfl rfl (aH (aF (dP (dM rfl rfl (lp (bB he rfl) rfl (aH (bH rfl (fun hc0 => ?_) (fun hc0 => ?_))))))))))))
 obtain ⟨hno, t', hs⟩ := PackQ.bad hr hc0
 refine dP (dM rfl rfl (dM rfl rfl (lp (bL rfl (by (simp only [List.all_cons, List.all_nil, he.oneCell]; rfl)) (eI _ _)) rfl (aJ (cR hs rfl rfl rfl (fun b34 w hb34 hbe34 hs => ?_))))))
 replace hs := hs.drop hb34
 refine lp (cG Tryz.underlying139 (fun _ h => by cases h) rfl) rfl (dN rfl rfl (dN rfl rfl (aH (aV ⟨_, fX rfl rfl, ?_⟩))))
 exact ⟨_, _, .other, rfl, dA, .inr ⟨rfl, hno, t', hs⟩⟩
 obtain ⟨w2, hn, hk2, hs⟩ := PackQ.good hr hc0
 refine aW (dP (dM rfl rfl (dN rfl rfl (dN rfl rfl (aH (aV ⟨_, fX rfl rfl, ?_⟩))))))
 exact ⟨_, _, .ok, rfl, rfl, .inl ⟨w2, rfl, hn, hk2, hs⟩⟩
set_option maxHeartbeats 1000000 in
theorem p_bodyUnknown (hG : Gl A V) (hs : Sl 5 1 ⟨w00, V0, V⟩ w ((bm, eM t) :: L) msg (pre.length + out.length) ((pre ++ out).map eA)) (hm : pre.length + out.length ≤ 137438953472) (hk : Keys t) {ty : Nat} {d : List UInt8} {dv : Value} (hd : RB V dv d) (hdl : d.length ≤ 137438953472) (hB : fG ⟨w00, V0, V⟩ L bb p0 [.int .u16 ty, dv]) :
  eC Tryz.prog 261 #[.pointer (some ⟨bb, p0, none⟩), msg, .map (some bm), .int .i64 (pre.length : Nat)] w (PackQ A w00 V0 V L bm pre (some ((⟨out, t⟩ : Ink).put d))) := by
 have hM : ∀ {t : List (List UInt8 × Nat)}, ∀ x ∈ L, x ∈ (bm, eM t) :: L := fun x hx => List.mem_cons_of_mem _ hx
 obtain ⟨a, cap, rfl, hca, _⟩ := hd.form
 refine aT [_, _, _, _] Tryz.func261 Tryz.ntmps261 Tryz.results261 rfl rfl (dP (dN rfl rfl (dN rfl rfl (aH (dP (dM rfl rfl (dM rfl rfl (lp (aN rfl) rfl (lp (bD fo_221_1 rfl) rfl (lp (aO rfl (bR k_23 (hB.ld hs.st hM 1 rfl))) rfl (lp (po_sliceAll es_23 rfl hca) rfl (aZ ok_226 rfl rfl (p_packBytes hs (by omega) (hd.src hs.isIn) (by omega)) rfl (fun v16 w HF => ?_)))))))))))))
 obtain _ := HF
 replace hs := HF
 refine dN rfl rfl (dN rfl rfl (aH (aV ⟨_, fX rfl rfl, ?_⟩)))
 exact ⟨_, _, .ok, rfl, rfl, .inl ⟨(⟨out, t⟩ : Ink).put d, rfl, rfl, hk, Sl.more hs rfl⟩⟩
set_option maxHeartbeats 1000000 in
theorem p_bodySRV (hG : Gl A V) (hs : Sl 5 1 ⟨w00, V0, V⟩ w ((bm, eM t) :: L) msg (pre.length + out.length) ((pre ++ out).map eA)) (hm : pre.length + out.length ≤ 137438953472) (hk : Keys t) (h255 : s.length ≤ 255) {n1 n2 n3 : Nat} (hn1 : n1 < 65536) (hn2 : n2 < 65536) (hn3 : n3 < 65536) (hB : fG ⟨w00, V0, V⟩ L bb p0 (.int .u16 n1 :: .int .u16 n2 :: .int .u16 n3 :: nmC s s.length)) :
  eC Tryz.prog 250 #[.pointer (some ⟨bb, p0, none⟩), msg, .map (some bm), .int .i64 (pre.length : Nat)] w (PackQ A w00 V0 V L bm pre (nameP false s ((((⟨out, t⟩ : Ink).put (be2 n1)).put (be2 n2)).put (be2 n3)))) := by
 have hM : ∀ {t : List (List UInt8 × Nat)}, ∀ x ∈ L, x ∈ (bm, eM t) :: L := fun x hx => List.mem_cons_of_mem _ hx
 have hN : NameW ⟨w00, V0, V⟩ L bb (p0 + 3) s := ⟨h255, hB.part 3 (fun j u hu => by rw [Nat.add_comm]; exact hu)⟩
 refine aT [_, _, _, _] Tryz.func250 Tryz.ntmps250 Tryz.results250 rfl rfl (dP (dN rfl rfl (dN rfl rfl (aH (dP (dM rfl rfl (dN rfl rfl (aH (dP (dM rfl rfl (dM rfl rfl (lp (aN rfl) rfl (lp (po_fa0' fo_199_0 rfl) rfl ?_)))))))))))))
 refine lp (aO rfl (bR eS (hB.ld hs.st hM 0 rfl))) rfl (aZ ok_143 rfl rfl (fI hs (by omega) n1 hn1) rfl (fun v18 w HF => ?_))
 obtain _ := HF
 replace hs := Sl.more HF rfl
 refine dN rfl rfl (aH (dP (dM rfl rfl (dM rfl rfl (lp (aN rfl) rfl (lp (bD fo_199_1 rfl) rfl (lp (aO rfl (bR eS (hB.ld hs.st hM 1 rfl))) rfl (aZ ok_143 rfl rfl (fI hs (by simp [be2]; omega) n2 hn2) rfl (fun v24 w HF => ?_)))))))))
 obtain _ := HF
 replace hs := Sl.more HF rfl
 refine dN rfl rfl (aH (dP (dM rfl rfl (dM rfl rfl (lp (aN rfl) rfl (lp (bD fo_199_2 rfl) rfl (lp (aO rfl (bR eS (hB.ld hs.st hM 2 rfl))) rfl (aZ ok_143 rfl rfl (fI hs (by simp [be2]; omega) n3 hn3) rfl (fun v30 w HF => ?_)))))))))
 obtain _ := HF
 replace hs := Sl.more HF rfl
 refine dN rfl rfl (aH (dP (dM rfl rfl (lp (aN rfl) rfl (lp (bD fo_199_3 rfl) rfl (dM rfl rfl (dM rfl rfl (aZ ok_144 rfl rfl (p_nameF hG hs (by simp [be2]; omega) (hN.more hM) hk) rfl (fun v37 w HF => ?_)))))))))
 obtain ⟨mv, e, k, rfl, he, hr⟩ := HF
 clear hs
 refine dM rfl rfl (dO rfl rfl rfl (dO rfl rfl rfl (dN rfl rfl (dN rfl rfl (aH (aF (dP (dM rfl rfl (lp (bB he rfl) rfl (aH (bH rfl (fun hc0 => ?_) (fun hc0 => ?_))))))))))))
 obtain ⟨hno, hs⟩ := PackQ.badF hr hc0
 refine dP (dM rfl rfl (dM rfl rfl (lp (bL rfl (by (simp only [List.all_cons, List.all_nil, he.oneCell]; rfl)) (eI _ _)) rfl (aJ (cR hs rfl rfl rfl (fun b45 w hb45 hbe45 hs => ?_))))))
 replace hs := hs.drop hb45
 refine lp (cG Tryz.underlying139 (fun _ h => by cases h) rfl) rfl (dN rfl rfl (dN rfl rfl (aH (aV ⟨_, fX rfl rfl, ?_⟩))))
 exact ⟨_, _, .other, rfl, dA, .inr ⟨rfl, hno, t, hs⟩⟩
 obtain ⟨w2, hn, hk2, hs⟩ := PackQ.goodF hr hc0
 have hw2 : w2.tbl = t := nameF_tbl hn
 refine aW (dP (dM rfl rfl (dN rfl rfl (dN rfl rfl (aH (aV ⟨_, fX rfl rfl, ?_⟩))))))
 exact ⟨_, _, .ok, rfl, rfl, .inl ⟨w2, rfl, hn, hk2, by rw [hw2]; exact hs⟩⟩
end
end Go.Proofs.YtgpfjlfkaoffeaaGreatDoor

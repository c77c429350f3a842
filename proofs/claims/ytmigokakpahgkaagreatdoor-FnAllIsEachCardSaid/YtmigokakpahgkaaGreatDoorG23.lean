/- The reference: questions, records' headers, numbers behind pointers. The reference: bodies that are addresses, names, bytes. -/
import Derived.Test.YtmigokakpahgkaaGreatDoorG22
set_option linter.all false
namespace Go.Proofs.YtmigokakpahgkaaGreatDoor
open Go
theorem SName.ok {l : List UInt8} {n o : Nat} {out : List UInt8} (h : SName l n o true out) : name l n = some (out, o) := by
 rcases h with ⟨_, h⟩ | ⟨h, _⟩
 exact h
 cases h
theorem SName.bad {l : List UInt8} {n o : Nat} {out : List UInt8} (h : SName l n o false out) : name l n = none ∧ out = [] ∧ o = 0 := by
 rcases h with ⟨h, _⟩ | ⟨_, h⟩
 cases h
 exact h
theorem R16.okB {l : List UInt8} {n x o : Nat} (h : R16 l n x o (bK true)) : rd16 l n = some x ∧ o = n + 2 ∧ x = w16 l n ∧ n + 2 ≤ l.length := R16.ok h
theorem R32.okB {l : List UInt8} {n x o : Nat} (h : R32 l n x o (bK true)) : rd32 l n = some x ∧ o = n + 4 ∧ x = w32 l n ∧ n + 4 ≤ l.length := R32.ok h
theorem R16.badB {l : List UInt8} {n x o : Nat} (h : R16 l n x o (bK false)) : rd16 l n = none ∧ l.length < n + 2 ∧ x = 0 ∧ o = n := by
 have h1 := R16.badlen h (by decide)
 rcases h with ⟨h, _⟩ | ⟨_, h2, h3, h4⟩
 cases h
 exact ⟨h2, h1.2, h3, h4⟩
theorem R32.badB {l : List UInt8} {n x o : Nat} (h : R32 l n x o (bK false)) : rd32 l n = none ∧ x = 0 ∧ o = n := by
 rcases h with ⟨h, _⟩ | ⟨_, h2, h3, h4⟩
 cases h
 exact ⟨h2, h3, h4⟩
section
variable {V : Vw} {w0 : World} {l : List UInt8} {mv : Value} {off : Int}
def SAsk (l : List UInt8) (n o : Nat) (ok : Bool) (acs : List Value) : Prop := acs.length = 3 ∧ Flat acs ∧ ((ok = true ∧ ∃ a, ask l n = some (a, o) ∧ acs = askC a) ∨ (ok = false ∧ ask l n = none))
set_option maxHeartbeats 1000000 in
theorem c_Ask (hV : V.In w0) (hb : RB V mv l) (n : Nat) (hn : off = n) (h1 : n ≤ 1152921504606846976) (h2 : l.length ≤ 4294967296) :
  CallsV Tryz.prog 139 #[mv, .int .i64 off] w0 fun v w' => St ⟨w0, V, V⟩ w' [] ∧ ∃ (acs : List Value) (o : Nat) (ok : Bool), v = .tuple #[.agg acs.toArray, .int .i64 o, .bool ok] ∧ SAsk l n o ok acs := by
 subst hn
 have hs := St.start hV
 refine aT [_, _] Tryz.func139 Tryz.ntmps139 Tryz.results139 rfl rfl (dP (aJ (aX hs z_106 rfl (fun b4 w hb4 he4 hs => dN rfl rfl (dN rfl rfl (aH (dP (lp (bM (vs := []) (ps := []) rfl bz_106) rfl (aJ (aX hs z_106 rfl (fun b7 w hb7 he7 hs => aJ (dR 0 hs k_106 rfl rfl rfl (by simp) (by simp) (aG (by decide +kernel)) rfl (fun w hs => dN rfl rfl (aH (dP (dM rfl rfl ?_))))))))))))))))
 refine dM rfl rfl (aZ ok_144 rfl rfl (c_Name hs.isIn hb n rfl h1 h2) rfl (fun v13 w HF => ?_))
 obtain ⟨hc, out, o, ok, rfl, hr⟩ := HF
 replace hs := hs.frame hc
 refine dM rfl rfl (dO rfl rfl rfl (dO rfl rfl rfl (dO rfl rfl rfl (lp (aR fo_106_0 rfl) rfl (aJ (dQ 0 hs k_9 rfl rfl rfl rfl rfl rfl rfl (fun w hs => dN rfl rfl (dN rfl rfl (aH (aF (dP (dM rfl rfl (aH (bJ rfl (fun hc0 => ?_) (fun hc0 => ?_)))))))))))))))
 subst hc0
 have hname := hr.ok
 have hol := (name_some hname).2.2
 refine aB (dM rfl rfl (dM rfl rfl (aZ ok_136 rfl rfl (c_two hs.isIn hb o rfl (by omega) (by omega)) rfl (fun v22 w HF => ?_))))
 obtain ⟨hc, x, o1, ok, rfl, hr2⟩ := HF
 replace hs := hs.frame hc
 refine dM rfl rfl (dO rfl rfl rfl (dO rfl rfl rfl (dO rfl rfl rfl (lp (aR fo_106_1 rfl) rfl (aJ (dQ 0 hs cB rfl rfl rfl rfl rfl rfl rfl (fun w hs => dN rfl rfl (dN rfl rfl (aH (aF (dP (dM rfl rfl (aH (bJ rfl (fun hc1 => ?_) (fun hc1 => ?_)))))))))))))))
 subst hc1
 obtain ⟨ht, rfl, hx, hl1⟩ := hr2.okB
 refine aB (dM rfl rfl (dM rfl rfl (aZ ok_136 rfl rfl (c_two hs.isIn hb (o + 2) rfl (by omega) (by omega)) rfl (fun v31 w HF => ?_))))
 obtain ⟨hc, y, o2, ok, rfl, hr3⟩ := HF
 replace hs := hs.frame hc
 refine dM rfl rfl (dO rfl rfl rfl (dO rfl rfl rfl (dO rfl rfl rfl (lp (aR fo_106_2 rfl) rfl (aJ (dQ 0 hs cB rfl rfl rfl rfl rfl rfl rfl (fun w hs => dN rfl rfl (dN rfl rfl (aH (dP (lp (aO rfl (aP k_106 (hs.g 0 rfl) (by simp))) rfl (dM rfl rfl (dM rfl rfl (aJ (dR 1 hs k_106 rfl rfl rfl (by simp) (by simp) (aG rfl) rfl (fun w hs => ?_))))))))))))))))
 refine dN rfl rfl (dN rfl rfl (aH (aV ⟨_, res3 ⟨_, rfl, aP k_106 (hs.g 1 rfl) rfl⟩ rfl rfl, ⟨(hs.drop hb7).drop hb4, _, o2, ok, rfl, rfl, aG rfl, ?_⟩⟩)))
 cases ok
 exact .inr ⟨rfl, by simp [ask, hname, ht, hr3.badB.1]⟩
 obtain ⟨hcl, rfl, _, _⟩ := hr3.okB
 exact .inl ⟨rfl, ⟨out, x, y⟩, by simp only [ask, hname, ht, hcl, Option.bind_some, Option.map_some], rfl⟩
 subst hc1
 refine aW (dP (lp (aO rfl (aP k_106 (hs.g 0 rfl) (by simp))) rfl (dM rfl rfl (dM rfl rfl (aJ (dR 1 hs k_106 rfl rfl rfl (by simp) (by simp) (aG rfl) rfl (fun w hs => dN rfl rfl (dN rfl rfl (aH (aV ⟨_, res3 ⟨_, rfl, aP k_106 (hs.g 1 rfl) rfl⟩ rfl rfl, ?_⟩))))))))))
 exact ⟨(hs.drop hb7).drop hb4, _, _, false, rfl, rfl, aG rfl, .inr ⟨rfl, by simp [ask, hname, hr2.badB.1]⟩⟩
 subst hc0
 refine aW (aF (dP (dM rfl rfl (aH (aY rfl rfl (aW (dP (lp (aO rfl (aP k_106 (hs.g 0 rfl) (by simp))) rfl (dM rfl rfl (dM rfl rfl (aJ (dR 1 hs k_106 rfl rfl rfl (by simp) (by simp) (aG rfl) rfl (fun w hs => dN rfl rfl (dN rfl rfl ?_))))))))))))))
 refine aH (aV ⟨_, res3 ⟨_, rfl, aP k_106 (hs.g 1 rfl) rfl⟩ rfl rfl, ?_⟩)
 exact ⟨(hs.drop hb7).drop hb4, _, _, false, rfl, rfl, aG rfl, .inr ⟨rfl, by simp [ask, hr.bad.1]⟩⟩
def SHdr (l : List UInt8) (n o : Nat) (ok : Bool) (rcs : List Value) : Prop := rcs.length = 16 ∧ Flat rcs ∧ ((ok = true ∧ ∃ r, header l n = some (r, o) ∧ rcs = recC r (.slice none 0 0) (.slice none 0 0) (.slice none 0 0)) ∨ (ok = false ∧ header l n = none))
set_option maxHeartbeats 1000000 in
theorem c_Start (hV : V.In w0) (hb : RB V mv l) (n : Nat) (hn : off = n) (h1 : n ≤ 1152921504606846976) (h2 : l.length ≤ 4294967296) :
  CallsV Tryz.prog 141 #[mv, .int .i64 off] w0 fun v w' => St ⟨w0, V, V⟩ w' [] ∧ ∃ (rcs : List Value) (o : Nat) (ok : Bool), v = .tuple #[.agg rcs.toArray, .int .i64 o, .bool ok] ∧ SHdr l n o ok rcs := by
 subst hn
 have hs := St.start hV
 refine aT [_, _] Tryz.func141 Tryz.ntmps141 Tryz.results141 rfl rfl (dP (aJ (aX hs z_72 rfl (fun b4 w hb4 he4 hs => dN rfl rfl (dN rfl rfl (aH (dP (lp (bM (vs := []) (ps := []) rfl bz_72) rfl (aJ (aX hs z_72 rfl (fun b7 w hb7 he7 hs => aJ (dR 0 hs bT rfl rfl rfl (by simp) (by simp) (aG (by decide +kernel)) rfl (fun w hs => dN rfl rfl (aH (dP (dM rfl rfl ?_))))))))))))))))
 refine dM rfl rfl (aZ ok_144 rfl rfl (c_Name hs.isIn hb n rfl h1 h2) rfl (fun v13 w HF => ?_))
 obtain ⟨hc, out, o, ok, rfl, hr⟩ := HF
 replace hs := hs.frame hc
 refine dM rfl rfl (dO rfl rfl rfl (dO rfl rfl rfl (dO rfl rfl rfl (lp (aR fo_72_0 rfl) rfl (aJ (dQ 0 hs k_9 rfl rfl rfl rfl rfl rfl rfl (fun w hs => dN rfl rfl (dN rfl rfl (aH (aF (dP (dM rfl rfl (aH (bJ rfl (fun hc0 => ?_) (fun hc0 => ?_)))))))))))))))
 subst hc0
 have hname := hr.ok
 have hol := (name_some hname).2.2
 refine aB (dM rfl rfl (dM rfl rfl (aZ ok_136 rfl rfl (c_two hs.isIn hb o rfl (by omega) (by omega)) rfl (fun v22 w HF => ?_))))
 obtain ⟨hc, x, o1, ok, rfl, hr2⟩ := HF
 replace hs := hs.frame hc
 refine dM rfl rfl (dO rfl rfl rfl (dO rfl rfl rfl (dO rfl rfl rfl (lp (aR fo_72_1 rfl) rfl (aJ (dQ 0 hs cB rfl rfl rfl rfl rfl rfl rfl (fun w hs => dN rfl rfl (dN rfl rfl (aH (aF (dP (dM rfl rfl (aH (bJ rfl (fun hc1 => ?_) (fun hc1 => ?_)))))))))))))))
 subst hc1
 obtain ⟨ht, rfl, hx, hl1⟩ := hr2.okB
 refine aB (dM rfl rfl (dM rfl rfl (aZ ok_136 rfl rfl (c_two hs.isIn hb (o + 2) rfl (by omega) (by omega)) rfl (fun v31 w HF => ?_))))
 obtain ⟨hc, y, o2, ok, rfl, hr3⟩ := HF
 replace hs := hs.frame hc
 refine dM rfl rfl (dO rfl rfl rfl (dO rfl rfl rfl (dO rfl rfl rfl (lp (aR fo_72_2 rfl) rfl (aJ (dQ 0 hs cB rfl rfl rfl rfl rfl rfl rfl (fun w hs => dN rfl rfl (dN rfl rfl (aH (aF (dP (dM rfl rfl (aH (bJ rfl (fun hc2 => ?_) (fun hc2 => ?_)))))))))))))))
 subst hc2
 obtain ⟨hcl, rfl, hy, hl2⟩ := hr3.okB
 refine aB (dM rfl rfl (dM rfl rfl (aZ ok_146 rfl rfl (c_four hs.isIn hb (o + 2 + 2) rfl (by omega) (by omega)) rfl (fun v40 w HF => ?_))))
 obtain ⟨hc, z, o3, ok, rfl, hr4⟩ := HF
 replace hs := hs.frame hc
 refine dM rfl rfl (dO rfl rfl rfl (dO rfl rfl rfl (dO rfl rfl rfl (lp (aR fo_72_3 rfl) rfl (aJ (dQ 0 hs k_68 rfl rfl rfl rfl rfl rfl rfl (fun w hs => dN rfl rfl (dN rfl rfl (aH (aF (dP (dM rfl rfl (aH (bJ rfl (fun hc3 => ?_) (fun hc3 => ?_)))))))))))))))
 subst hc3
 obtain ⟨httl, rfl, hz, hl3⟩ := hr4.okB
 refine aB (dM rfl rfl (dM rfl rfl (aZ ok_136 rfl rfl (c_two hs.isIn hb (o + 2 + 2 + 4) rfl (by omega) (by omega)) rfl (fun v49 w HF => ?_))))
 obtain ⟨hc, u, o4, ok, rfl, hr5⟩ := HF
 replace hs := hs.frame hc
 refine dM rfl rfl (dO rfl rfl rfl (dO rfl rfl rfl (dO rfl rfl rfl (lp (aR fo_72_4 rfl) rfl (aJ (dQ 0 hs cB rfl rfl rfl rfl rfl rfl rfl (fun w hs => dN rfl rfl (dN rfl rfl (aH (dP (lp (aO rfl (aP bT (hs.g 0 rfl) (by simp))) rfl (dM rfl rfl (dM rfl rfl (aJ (dR 1 hs bT rfl rfl rfl (by simp) (by simp) (aG rfl) rfl (fun w hs => ?_))))))))))))))))
 refine dN rfl rfl (dN rfl rfl (aH (aV ⟨_, res3 ⟨_, rfl, aP bT (hs.g 1 rfl) rfl⟩ rfl rfl, ⟨(hs.drop hb7).drop hb4, _, o4, ok, rfl, rfl, aG rfl, ?_⟩⟩)))
 cases ok
 exact .inr ⟨rfl, by simp [header, hname, ht, hcl, httl, hr5.badB.1]⟩
 obtain ⟨hlen, rfl, _, _⟩ := hr5.okB
 exact .inl ⟨rfl, { name := out, type := x, cls := y, ttl := z, length := u }, by simp only [header, hname, ht, hcl, httl, hlen, Option.bind_some, Option.map_some], rfl⟩
 subst hc3
 refine aW (dP (lp (aO rfl (aP bT (hs.g 0 rfl) (by simp))) rfl (dM rfl rfl (dM rfl rfl (aJ (dR 1 hs bT rfl rfl rfl (by simp) (by simp) (aG rfl) rfl (fun w hs => dN rfl rfl (dN rfl rfl (aH (aV ⟨_, res3 ⟨_, rfl, aP bT (hs.g 1 rfl) rfl⟩ rfl rfl, ?_⟩))))))))))
 exact ⟨(hs.drop hb7).drop hb4, _, _, false, rfl, rfl, aG rfl, .inr ⟨rfl, by simp [header, hname, ht, hcl, hr4.badB.1]⟩⟩
 subst hc2
 refine aW (aF (dP (dM rfl rfl (aH (aY rfl rfl (aW (dP (lp (aO rfl (aP bT (hs.g 0 rfl) (by simp))) rfl (dM rfl rfl (dM rfl rfl (aJ (dR 1 hs bT rfl rfl rfl (by simp) (by simp) (aG rfl) rfl (fun w hs => dN rfl rfl (dN rfl rfl ?_))))))))))))))
 refine aH (aV ⟨_, res3 ⟨_, rfl, aP bT (hs.g 1 rfl) rfl⟩ rfl rfl, ?_⟩)
 exact ⟨(hs.drop hb7).drop hb4, _, _, false, rfl, rfl, aG rfl, .inr ⟨rfl, by simp [header, hname, ht, hr3.badB.1]⟩⟩
 subst hc1
 refine aW (aF (dP (dM rfl rfl (aH (aY rfl rfl (aW (aF (dP (dM rfl rfl (aH (aY rfl rfl (aW (dP ?_)))))))))))))
 refine lp (aO rfl (aP bT (hs.g 0 rfl) (by simp))) rfl (dM rfl rfl (dM rfl rfl (aJ (dR 1 hs bT rfl rfl rfl (by simp) (by simp) (aG rfl) rfl (fun w hs => dN rfl rfl (dN rfl rfl (aH (aV ⟨_, res3 ⟨_, rfl, aP bT (hs.g 1 rfl) rfl⟩ rfl rfl, ?_⟩))))))))
 exact ⟨(hs.drop hb7).drop hb4, _, _, false, rfl, rfl, aG rfl, .inr ⟨rfl, by simp [header, hname, hr2.badB.1]⟩⟩
 subst hc0
 refine aW (aF (dP (dM rfl rfl (aH (aY rfl rfl (aW (aF (dP (dM rfl rfl (aH (aY rfl rfl (aW (aF ?_)))))))))))))
 refine dP (dM rfl rfl (aH (aY rfl rfl (aW (dP (lp (aO rfl (aP bT (hs.g 0 rfl) (by simp))) rfl (dM rfl rfl (dM rfl rfl (aJ (dR 1 hs bT rfl rfl rfl (by simp) (by simp) (aG rfl) rfl (fun w hs => dN rfl rfl (dN rfl rfl (aH (aV ?_))))))))))))))
 refine ⟨_, res3 ⟨_, rfl, aP bT (hs.g 1 rfl) rfl⟩ rfl rfl, ?_⟩
 exact ⟨(hs.drop hb7).drop hb4, _, _, false, rfl, rfl, aG rfl, .inr ⟨rfl, by simp [header, hr.bad.1]⟩⟩
def wordsS (l : List UInt8) : Nat → List Nat → List Value → Bool × Nat × List Value
 | n, [], cs => (true, n, cs)
 | n, q :: qs, cs => if n + 2 ≤ l.length then wordsS l (n + 2) qs (cs.set q (.int .u32 (w16 l n))) else (false, n, cs)
set_option maxHeartbeats 1000000 in
theorem c_words (hV : V.In w0) (hb : RB V mv l) (n : Nat) (hn : off = n) (h1 : n ≤ 1152921504606746976) (h2 : l.length ≤ 4294967296) {rb : Nat} {E : TypeId} {cs : List Value} (hown : w0.heap[rb]? = some (.cells cs.toArray E (0, 0))) (hvn : V rb = none)
  (qs : List Nat) (hq : ∀ q ∈ qs, q < cs.length) {lv : Value} (hlv : SlV V 1 lv qs.length (qs.map fun q => .pointer (some ⟨rb, q, none⟩))) (hql : qs.length ≤ 1000) :
  CallsV Tryz.prog 145 #[mv, .int .i64 off, lv] w0 fun v w' => ∃ (ok : Bool) (o : Nat) (cs' : List Value), v = .tuple #[.int .i64 o, .bool ok] ∧ St ⟨w0, V, V⟩ w' [(rb, .cells cs'.toArray E (0, 0))] ∧ wordsS l n qs cs = (ok, o, cs') := by
 subst hn
 obtain ⟨a, cap, rfl, hcap, ha⟩ := hlv.form
 have hs := St.start1 hV hown (bU _ _) hvn
 refine aT [_, _, _] Tryz.func145 Tryz.ntmps145 Tryz.results145 rfl rfl (dP (dN rfl rfl (dN rfl rfl (aH (aF (dP (dM rfl rfl (lp (bC Tryz.underlying261 rfl) rfl (dM rfl rfl (aH (bQ (dC (fun g : Nat × Nat × List Value => upd (upd (upd (upd (upd emp 15 (.int .i64 g.1)) 14 (.int .i64 qs.length)) 13 (.slice a qs.length cap)) 1 (.int .i64 g.2.1)) 0 mv) (fun g w' => St ⟨w0, V, V⟩ w' [(rb, .cells g.2.2.toArray E (0, 0))] ∧ wordsS l g.2.1 (qs.drop g.1) g.2.2 = wordsS l n qs cs ∧ g.1 ≤ qs.length ∧ g.2.1 = n + 2 * g.1 ∧ g.2.2.length = cs.length) (fun g => qs.length - g.1) (0, n, cs) (aL rfl (aL rfl (aL rfl (aL rfl (aL rfl (bG _)))))) ⟨hs, by simp, Nat.zero_le _, rfl, rfl⟩ ?_))))))))))))
 clear hs
 rintro ⟨j, i, cc⟩ w ⟨hs, hw, hj, hi, hcl⟩
 simp only at hs hw hj hi hcl ⊢
 refine dP (lp (cY rfl rfl) rfl (aH (aF (bH rfl (fun hc0 => ?_) (fun hc0 => ?_)))))
 obtain ⟨b, p, rfl, hc⟩ := ha (by omega)
 have hjl : j < qs.length := by omega
 obtain ⟨q, hqj⟩ : ∃ q, qs[j]? = some q := ⟨_, List.getElem?_eq_getElem hjl⟩
 have hdrop : qs.drop j = q :: qs.drop (j + 1) := by
  rw [List.drop_eq_getElem_cons hjl]
  rw [List.getElem?_eq_getElem hjl] at hqj
  rw [Option.some.inj hqj]
 have hql2 : q < cc.length := by rw [hcl]; exact hq q (List.mem_of_getElem? hqj)
 rw [hdrop] at hw
 refine aW (aF (bQ (dP (lp (po_iaN j (p + j * 1) es_261 rfl rfl rfl hjl rfl) rfl (lp (aO rfl (bR (v := .pointer (some ⟨rb, q, none⟩)) k_260 (by rw [Nat.mul_one]; exact Vw.cell_in hs.isIn (hc _ _ (by simp [hqj]))))) rfl (dN rfl rfl (aH (dP (dM rfl rfl (dM rfl rfl (aZ ok_136 rfl rfl (c_two hs.isIn hb i rfl (by omega) (by omega)) rfl (fun v22 w HF => ?_))))))))))))
 obtain ⟨hc2, x, o, ok, rfl, hr⟩ := HF
 replace hs := hs.frame hc2
 refine dM rfl rfl (dO rfl rfl rfl (dO rfl rfl rfl (dO rfl rfl rfl (dN rfl rfl (dN rfl rfl (dN rfl rfl (aH (aF (dP (dM rfl rfl (lp (cS rfl) rfl (aH (bJ rfl (fun hc1 => ?_) (fun hc1 => ?_))))))))))))))
 obtain rfl : ok = false := by simpa using hc1
 obtain ⟨_, hlt, rfl, rfl⟩ := hr.badB
 refine dP (dM rfl rfl (dN rfl rfl (dN rfl rfl (aH (aV ⟨_, res2 rfl rfl, ?_⟩)))))
 rw [wordsS, if_neg (by omega)] at hw
 exact ⟨false, _, _, rfl, hs, hw.symm⟩
 obtain rfl : ok = true := by simpa using hc1
 obtain ⟨_, rfl, rfl, hle⟩ := hr.okB
 have hxl := w16_lt l i
 refine aW (dP (dM rfl rfl (dM rfl rfl (lp (bY Tryz.underlying27 Tryz.underlying68 rfl (u32c (c := w16 l i) rfl (by omega))) rfl (lp (aN rfl) rfl (aJ (o_storeP (k := 0) hs k_68 rfl rfl rfl rfl rfl hql2 rfl rfl (fun w hs => aH (aB (dM rfl rfl (dN rfl rfl (aH (aB (lp (bN rfl rfl (i64c (c := j + 1) (by omega) (by omega))) rfl ?_))))))))))))))
 refine dM rfl rfl (aH ?_)
 exact ⟨(j + 1, i + 2, _), aL rfl (aL rfl (aL rfl (aL rfl (aL rfl (bG _))))), ⟨hs, by rw [← hw]; conv => rhs; rw [wordsS, if_pos hle], by simp only; omega, by simp only; omega, by simp [hcl]⟩, by simp only; omega⟩
 refine e_exit (aF ?_)
 have hjn : j = qs.length := by omega
 subst hjn
 rw [List.drop_length, wordsS] at hw
 refine aB (dM rfl rfl (dN rfl rfl (dN rfl rfl (aH (aV ⟨_, res2 rfl rfl, ?_⟩)))))
 exact ⟨true, _, _, rfl, hs, hw.symm⟩
end
end Go.Proofs.YtmigokakpahgkaaGreatDoor
namespace Go.Proofs.YtmigokakpahgkaaGreatDoor
open Go
def SBody (V : Vw) (l : List UInt8) (n kind len : Nat) (ok : Bool) (rc : List Value) : Prop := rc.length = 16 ∧ Flat rc ∧ ((ok = true ∧ ∃ r, body l n kind len = some r ∧ RRec V r rc) ∨ (ok = false ∧ body l n kind len = none))
theorem RBy.okB {V : Vw} {l : List UInt8} {n c : Nat} {bv : Value} (h : RBy V l n c bv true) : n + c ≤ l.length ∧ RB V bv (seg l n c) := by
 rcases h with ⟨_, h1, h2⟩ | ⟨h, _⟩
 exact ⟨h1, h2⟩
 cases h
theorem RBy.badB {V : Vw} {l : List UInt8} {n c : Nat} {bv : Value} (h : RBy V l n c bv false) : l.length < n + c ∧ bv = .slice none 0 0 := by
 rcases h with ⟨h, _⟩ | ⟨_, h1, h2⟩
 cases h
 exact ⟨h1, h2⟩
theorem words1 {l : List UInt8} {n q o : Nat} {cs cs' : List Value} {ok : Bool} (h : wordsS l n [q] cs = (ok, o, cs')) :
  (ok = true → n + 2 ≤ l.length ∧ o = n + 2 ∧ cs' = cs.set q (.int .u32 (w16 l n))) ∧ (ok = false → l.length < n + 2) := by
 unfold wordsS at h
 split at h
 unfold wordsS at h; cases h; exact ⟨fun _ => ⟨by assumption, rfl, rfl⟩, fun h => by cases h⟩
 cases h; exact ⟨fun h => (by cases h), fun _ => by omega⟩
theorem words3 {l : List UInt8} {n q r s o : Nat} {cs cs' : List Value} {ok : Bool} (h : wordsS l n [q, r, s] cs = (ok, o, cs')) :
  (ok = true → n + 6 ≤ l.length ∧ o = n + 6 ∧ cs' = ((cs.set q (.int .u32 (w16 l n))).set r (.int .u32 (w16 l (n + 2)))).set s (.int .u32 (w16 l (n + 4)))) ∧ (ok = false → l.length < n + 6) := by
 unfold wordsS at h
 split at h
 unfold wordsS at h
 split at h
 unfold wordsS at h
 split at h
 unfold wordsS at h; cases h; exact ⟨fun _ => ⟨by omega, rfl, rfl⟩, fun h => by cases h⟩
 cases h; exact ⟨fun h => (by cases h), fun _ => by omega⟩
 cases h; exact ⟨fun h => (by cases h), fun _ => by omega⟩
 cases h; exact ⟨fun h => (by cases h), fun _ => by omega⟩
theorem rd16_yes {l : List UInt8} {n : Nat} (h : n + 2 ≤ l.length) : rd16 l n = some (w16 l n) := by unfold rd16; rw [if_pos h]
theorem rd16_no {l : List UInt8} {n : Nat} (h : l.length < n + 2) : rd16 l n = none := by unfold rd16; rw [if_neg (by omega)]
theorem rdBytes_yes {l : List UInt8} {n c : Nat} (h : n + c ≤ l.length) : rdBytes l n c = some (seg l n c) := by unfold rdBytes; rw [if_pos h]
theorem rdBytes_no {l : List UInt8} {n c : Nat} (h : l.length < n + c) : rdBytes l n c = none := by unfold rdBytes; rw [if_neg (by omega)]
section
variable {V : Vw} {w0 : World} {l : List UInt8} {mv : Value} {off : Int}
set_option maxHeartbeats 1000000 in
theorem c_Body1 (hV : V.In w0) (hb : RB V mv l) (n : Nat) (hn : off = n) (len : Nat) {lv : Int} (hlv : lv = len) (h1 : n ≤ 1152921504606746970) (hlen : len ≤ 65536) (h2 : l.length ≤ 4294967296) :
  CallsV Tryz.prog 104 #[mv, .int .i64 off, .int .i64 1, .int .i64 lv] w0 fun v w' => ∃ (V' : Vw) (rc : List Value) (ok : Bool), v = .tuple #[.agg rc.toArray, .bool ok] ∧ St ⟨w0, V, V'⟩ w' [] ∧ SBody V' l n 1 len ok rc := by
 subst hn hlv
 obtain ⟨a, cap, rfl, hcap, ha⟩ := hb.form
 have hs := St.start hV
 refine aT [_, _, _, _] Tryz.func104 Tryz.ntmps104 Tryz.results104 rfl rfl (dP (aJ (aX hs z_72 rfl (fun b8 w hb8 he8 hs => dN rfl rfl (aH (dP (dM rfl rfl (lp (bL rfl (by rfl) (bu_72_5 _)) rfl (aJ (aX hs z_72 rfl (fun b10 w hb10 he10 hs => aJ (dR 0 hs bT rfl rfl rfl (by simp) (by simp) (aG (by decide +kernel)) rfl (fun w hs => ?_)))))))))))))
 obtain ⟨zz, hzl, hs⟩ : ∃ zz : List Value, zz.length = 16 ∧ St ⟨w0, V, V⟩ w [(b10, .cells (recC { kind := 1 } (.slice none 0 0) (.slice none 0 0) (.slice none 0 0)).toArray 72 (0, 0)), (b8, .cells zz.toArray 72 (0, 0))] := ⟨_, rfl, hs⟩
 refine aH (dP (dN rfl rfl (aH (dP (dM rfl rfl (dM rfl rfl (lp (bN rfl rfl (i64w (by omega))) rfl (dN rfl rfl (aH (aF (dP (dM rfl rfl (aH ?_)))))))))))))
 refine bQ (dP (lp (bI rfl rfl) rfl (dN rfl rfl (aH (cO rfl rfl (aB (dM rfl rfl (dM rfl rfl (aZ ok_143 rfl rfl (c_bytesAt hs.isIn hb n 4 rfl rfl (by omega) (by decide) (by omega)) rfl (fun v39 w HF => ?_))))))))))
 obtain ⟨V1, bv, ok, rfl, hc, hr⟩ := HF
 replace hs := hs.frame hc
 refine dM rfl rfl (dO rfl rfl rfl (dO rfl rfl rfl (lp (aR fo_72_6 rfl) rfl (aJ (dQ 0 hs k_22 rfl rfl rfl hr.oneCell rfl rfl rfl (fun w hs => dN rfl rfl (aH (aF (dP (dM rfl rfl (lp (cS rfl) rfl (aH (bJ rfl (fun hc1 => ?_) (fun hc1 => ?_))))))))))))))
 obtain rfl : ok = false := by simpa using hc1
 refine dP (lp (bM (vs := []) (ps := []) rfl bz_72) rfl (aJ (dR 1 hs bT rfl rfl rfl rfl hzl (aG rfl) rfl (fun w hs => dN rfl rfl (aH (aV ⟨_, res2 ⟨_, rfl, aP bT (hs.g 1 rfl) rfl⟩ rfl, ?_⟩))))))
 exact ⟨V1, _, false, rfl, (hs.drop hb10).drop hb8, rfl, aG rfl, .inr ⟨rfl, by simp only [body, rdBytes_no hr.badB.1, Option.map_none]⟩⟩
 obtain rfl : ok = true := by simpa using hc1
 obtain ⟨hfit, hRB⟩ := hr.okB
 have hRR : RRec V1 { kind := 1, data := seg l n 4 } (recC { kind := 1 } bv (.slice none 0 0) (.slice none 0 0)) := ⟨_, _, _, rfl, hRB, RTexts.nil V1, RPairs.nil V1⟩
 replace hs : St ⟨w0, V, V1⟩ _ [(b10, .cells (recC { kind := 1 } bv (.slice none 0 0) (.slice none 0 0)).toArray 72 (0, 0)), (b8, .cells zz.toArray 72 (0, 0))] := hs
 refine aW (dP (lp (aO rfl (aP bT (hs.g 0 rfl) hRR.flat.2)) rfl (aJ (dR 1 hs bT rfl rfl rfl hRR.flat.2 hzl hRR.flat.1 rfl (fun w hs => dN rfl rfl (aH (aV ⟨_, res2 ⟨_, rfl, aP bT (hs.g 1 rfl) hRR.flat.2⟩ rfl, ?_⟩)))))))
 exact ⟨V1, _, true, rfl, (hs.drop hb10).drop hb8, hRR.flat.2, hRR.flat.1, .inl ⟨rfl, _, by simp only [body, rdBytes_yes hfit, Option.map_some], hRR⟩⟩
set_option maxHeartbeats 1000000 in
theorem c_Body8 (hV : V.In w0) (hb : RB V mv l) (n : Nat) (hn : off = n) (len : Nat) {lv : Int} (hlv : lv = len) (h1 : n ≤ 1152921504606746970) (hlen : len ≤ 65536) (h2 : l.length ≤ 4294967296) :
  CallsV Tryz.prog 104 #[mv, .int .i64 off, .int .i64 8, .int .i64 lv] w0 fun v w' => ∃ (V' : Vw) (rc : List Value) (ok : Bool), v = .tuple #[.agg rc.toArray, .bool ok] ∧ St ⟨w0, V, V'⟩ w' [] ∧ SBody V' l n 8 len ok rc := by
 subst hn hlv
 obtain ⟨a, cap, rfl, hcap, ha⟩ := hb.form
 have hs := St.start hV
 refine aT [_, _, _, _] Tryz.func104 Tryz.ntmps104 Tryz.results104 rfl rfl (dP (aJ (aX hs z_72 rfl (fun b8 w hb8 he8 hs => dN rfl rfl (aH (dP (dM rfl rfl (lp (bL rfl (by rfl) (bu_72_5 _)) rfl (aJ (aX hs z_72 rfl (fun b10 w hb10 he10 hs => aJ (dR 0 hs bT rfl rfl rfl (by simp) (by simp) (aG (by decide +kernel)) rfl (fun w hs => ?_)))))))))))))
 obtain ⟨zz, hzl, hs⟩ : ∃ zz : List Value, zz.length = 16 ∧ St ⟨w0, V, V⟩ w [(b10, .cells (recC { kind := 8 } (.slice none 0 0) (.slice none 0 0) (.slice none 0 0)).toArray 72 (0, 0)), (b8, .cells zz.toArray 72 (0, 0))] := ⟨_, rfl, hs⟩
 refine aH (dP (dN rfl rfl (aH (dP (dM rfl rfl (dM rfl rfl (lp (bN rfl rfl (i64w (by omega))) rfl (dN rfl rfl (aH (aF (dP (dM rfl rfl (aH ?_)))))))))))))
 refine bQ (dP (lp (bI rfl rfl) rfl (dN rfl rfl (aH (aY rfl rfl (dP (lp (bI rfl rfl) rfl (dN rfl rfl (aH (cO rfl rfl (aB (dM rfl rfl (dM rfl rfl ?_)))))))))))))
 refine aZ ok_143 rfl rfl (c_bytesAt hs.isIn hb n 16 rfl rfl (by omega) (by decide) (by omega)) rfl (fun v48 w HF => ?_)
 obtain ⟨V1, bv, ok, rfl, hc, hr⟩ := HF
 replace hs := hs.frame hc
 refine dM rfl rfl (dO rfl rfl rfl (dO rfl rfl rfl (lp (aR fo_72_6 rfl) rfl (aJ (dQ 0 hs k_22 rfl rfl rfl hr.oneCell rfl rfl rfl (fun w hs => dN rfl rfl (aH (aF (dP (dM rfl rfl (lp (cS rfl) rfl (aH (bJ rfl (fun hc2 => ?_) (fun hc2 => ?_))))))))))))))
 obtain rfl : ok = false := by simpa using hc2
 refine dP (lp (bM (vs := []) (ps := []) rfl bz_72) rfl (aJ (dR 1 hs bT rfl rfl rfl rfl hzl (aG rfl) rfl (fun w hs => dN rfl rfl (aH (aV ⟨_, res2 ⟨_, rfl, aP bT (hs.g 1 rfl) rfl⟩ rfl, ?_⟩))))))
 exact ⟨V1, _, false, rfl, (hs.drop hb10).drop hb8, rfl, aG rfl, .inr ⟨rfl, by simp only [body, rdBytes_no hr.badB.1, Option.map_none]⟩⟩
 obtain rfl : ok = true := by simpa using hc2
 obtain ⟨hfit, hRB⟩ := hr.okB
 have hRR : RRec V1 { kind := 8, data := seg l n 16 } (recC { kind := 8 } bv (.slice none 0 0) (.slice none 0 0)) := ⟨_, _, _, rfl, hRB, RTexts.nil V1, RPairs.nil V1⟩
 replace hs : St ⟨w0, V, V1⟩ _ [(b10, .cells (recC { kind := 8 } bv (.slice none 0 0) (.slice none 0 0)).toArray 72 (0, 0)), (b8, .cells zz.toArray 72 (0, 0))] := hs
 refine aW (dP (lp (aO rfl (aP bT (hs.g 0 rfl) hRR.flat.2)) rfl (aJ (dR 1 hs bT rfl rfl rfl hRR.flat.2 hzl hRR.flat.1 rfl (fun w hs => dN rfl rfl (aH (aV ⟨_, res2 ⟨_, rfl, aP bT (hs.g 1 rfl) hRR.flat.2⟩ rfl, ?_⟩)))))))
 exact ⟨V1, _, true, rfl, (hs.drop hb10).drop hb8, hRR.flat.2, hRR.flat.1, .inl ⟨rfl, _, by simp only [body, rdBytes_yes hfit, Option.map_some], hRR⟩⟩
set_option maxHeartbeats 1000000 in
theorem c_Body13 (hV : V.In w0) (hb : RB V mv l) (n : Nat) (hn : off = n) (len : Nat) {lv : Int} (hlv : lv = len) (h1 : n ≤ 1152921504606746970) (hlen : len ≤ 65536) (h2 : l.length ≤ 4294967296) :
  CallsV Tryz.prog 104 #[mv, .int .i64 off, .int .i64 13, .int .i64 lv] w0 fun v w' => ∃ (V' : Vw) (rc : List Value) (ok : Bool), v = .tuple #[.agg rc.toArray, .bool ok] ∧ St ⟨w0, V, V'⟩ w' [] ∧ SBody V' l n 13 len ok rc := by
 subst hn hlv
 obtain ⟨a, cap, rfl, hcap, ha⟩ := hb.form
 have hs := St.start hV
 refine aT [_, _, _, _] Tryz.func104 Tryz.ntmps104 Tryz.results104 rfl rfl (dP (aJ (aX hs z_72 rfl (fun b8 w hb8 he8 hs => dN rfl rfl (aH (dP (dM rfl rfl (lp (bL rfl (by rfl) (bu_72_5 _)) rfl (aJ (aX hs z_72 rfl (fun b10 w hb10 he10 hs => aJ (dR 0 hs bT rfl rfl rfl (by simp) (by simp) (aG (by decide +kernel)) rfl (fun w hs => ?_)))))))))))))
 obtain ⟨zz, hzl, hs⟩ : ∃ zz : List Value, zz.length = 16 ∧ St ⟨w0, V, V⟩ w [(b10, .cells (recC { kind := 13 } (.slice none 0 0) (.slice none 0 0) (.slice none 0 0)).toArray 72 (0, 0)), (b8, .cells zz.toArray 72 (0, 0))] := ⟨_, rfl, hs⟩
 refine aH (dP (dN rfl rfl (aH (dP (dM rfl rfl (dM rfl rfl (lp (bN rfl rfl (i64w (by omega))) rfl (dN rfl rfl (aH (aF (dP (dM rfl rfl (aH ?_)))))))))))))
 refine bQ (dP (lp (bI rfl rfl) rfl (dN rfl rfl (aH (aY rfl rfl (dP (lp (bI rfl rfl) rfl (dN rfl rfl (aH (aY rfl rfl (aF (dP (lp (bI rfl rfl) rfl ?_)))))))))))))
 refine dN rfl rfl (aH (aY rfl rfl (dP (lp (bI rfl rfl) rfl (dN rfl rfl (aH (aY rfl rfl (aB (lp (bI rfl rfl) rfl (dN rfl rfl (aH (aY rfl rfl (dP ?_)))))))))))))
 refine lp (bI rfl rfl) rfl (dN rfl rfl (aH (aY rfl rfl (dP (lp (bI rfl rfl) rfl (dN rfl rfl (aH (aY rfl rfl (dP (lp (bI rfl rfl) rfl (dN rfl rfl (aH (aY rfl rfl ?_)))))))))))))
 refine dP (lp (bI rfl rfl) rfl (dN rfl rfl (aH (aY rfl rfl (dP (lp (bI rfl rfl) rfl (dN rfl rfl (aH (aY rfl rfl (aF (dP (lp (bI rfl rfl) rfl (dN rfl rfl ?_)))))))))))))
 refine aH (aY rfl rfl (aB (lp (bI rfl rfl) rfl (dN rfl rfl (aH (aY rfl rfl (aB (dM rfl rfl (dM rfl rfl (dM rfl rfl (aZ ok_143 rfl rfl (c_bytesAt hs.isIn hb n len rfl rfl (by omega) (by omega) (by omega)) rfl (fun v30 w HF => ?_))))))))))))
 obtain ⟨V1, bv, ok, rfl, hc, hr⟩ := HF
 replace hs := hs.frame hc
 refine dM rfl rfl (dO rfl rfl rfl (dO rfl rfl rfl (lp (aR fo_72_6 rfl) rfl (aJ (dQ 0 hs k_22 rfl rfl rfl hr.oneCell rfl rfl rfl (fun w hs => dN rfl rfl (aH (aF (dP (dM rfl rfl (lp (cS rfl) rfl (aH (bJ rfl (fun hc12 => ?_) (fun hc12 => ?_))))))))))))))
 obtain rfl : ok = false := by simpa using hc12
 refine dP (lp (bM (vs := []) (ps := []) rfl bz_72) rfl (aJ (dR 1 hs bT rfl rfl rfl rfl hzl (aG rfl) rfl (fun w hs => dN rfl rfl (aH (aV ⟨_, res2 ⟨_, rfl, aP bT (hs.g 1 rfl) rfl⟩ rfl, ?_⟩))))))
 exact ⟨V1, _, false, rfl, (hs.drop hb10).drop hb8, rfl, aG rfl, .inr ⟨rfl, by simp only [body, rdBytes_no hr.badB.1, Option.map_none]⟩⟩
 obtain rfl : ok = true := by simpa using hc12
 obtain ⟨hfit, hRB⟩ := hr.okB
 have hRR : RRec V1 { kind := 13, data := seg l n len } (recC { kind := 13 } bv (.slice none 0 0) (.slice none 0 0)) := ⟨_, _, _, rfl, hRB, RTexts.nil V1, RPairs.nil V1⟩
 replace hs : St ⟨w0, V, V1⟩ _ [(b10, .cells (recC { kind := 13 } bv (.slice none 0 0) (.slice none 0 0)).toArray 72 (0, 0)), (b8, .cells zz.toArray 72 (0, 0))] := hs
 refine aW (dP (lp (aO rfl (aP bT (hs.g 0 rfl) hRR.flat.2)) rfl (aJ (dR 1 hs bT rfl rfl rfl hRR.flat.2 hzl hRR.flat.1 rfl (fun w hs => dN rfl rfl (aH (aV ⟨_, res2 ⟨_, rfl, aP bT (hs.g 1 rfl) hRR.flat.2⟩ rfl, ?_⟩)))))))
 exact ⟨V1, _, true, rfl, (hs.drop hb10).drop hb8, hRR.flat.2, hRR.flat.1, .inl ⟨rfl, _, by simp only [body, rdBytes_yes hfit, Option.map_some], hRR⟩⟩
set_option maxHeartbeats 1000000 in
theorem c_Body2 (hV : V.In w0) (hb : RB V mv l) (n : Nat) (hn : off = n) (len : Nat) {lv : Int} (hlv : lv = len) (h1 : n ≤ 1152921504606746970) (hlen : len ≤ 65536) (h2 : l.length ≤ 4294967296) :
  CallsV Tryz.prog 104 #[mv, .int .i64 off, .int .i64 2, .int .i64 lv] w0 fun v w' => ∃ (V' : Vw) (rc : List Value) (ok : Bool), v = .tuple #[.agg rc.toArray, .bool ok] ∧ St ⟨w0, V, V'⟩ w' [] ∧ SBody V' l n 2 len ok rc := by
 subst hn hlv
 obtain ⟨a, cap, rfl, hcap, ha⟩ := hb.form
 have hs := St.start hV
 refine aT [_, _, _, _] Tryz.func104 Tryz.ntmps104 Tryz.results104 rfl rfl (dP (aJ (aX hs z_72 rfl (fun b8 w hb8 he8 hs => dN rfl rfl (aH (dP (dM rfl rfl (lp (bL rfl (by rfl) (bu_72_5 _)) rfl (aJ (aX hs z_72 rfl (fun b10 w hb10 he10 hs => aJ (dR 0 hs bT rfl rfl rfl (by simp) (by simp) (aG (by decide +kernel)) rfl (fun w hs => ?_)))))))))))))
 obtain ⟨zz, hzl, hs⟩ : ∃ zz : List Value, zz.length = 16 ∧ St ⟨w0, V, V⟩ w [(b10, .cells (recC { kind := 2 } (.slice none 0 0) (.slice none 0 0) (.slice none 0 0)).toArray 72 (0, 0)), (b8, .cells zz.toArray 72 (0, 0))] := ⟨_, rfl, hs⟩
 refine aH (dP (dN rfl rfl (aH (dP (dM rfl rfl (dM rfl rfl (lp (bN rfl rfl (i64w (by omega))) rfl (dN rfl rfl (aH (aF (dP (dM rfl rfl (aH ?_)))))))))))))
 refine bQ (dP (lp (bI rfl rfl) rfl (dN rfl rfl (aH (aY rfl rfl (dP (lp (bI rfl rfl) rfl (dN rfl rfl (aH (aY rfl rfl (aF (dP (lp (bI rfl rfl) rfl ?_)))))))))))))
 refine dN rfl rfl (aH (cO rfl rfl (aW (cO rfl rfl (aB (dM rfl rfl (dM rfl rfl (aZ ok_144 rfl rfl (c_Name hs.isIn hb n rfl (by omega) (by omega)) rfl (fun v59 w HF => ?_)))))))))
 obtain ⟨hc, out, o, ok, rfl, hr⟩ := HF
 replace hs := hs.frame hc
 refine dM rfl rfl (dO rfl rfl rfl (dO rfl rfl rfl (dO rfl rfl rfl (lp (aR fo_72_7 rfl) rfl (aJ (dQ 0 hs k_9 rfl rfl rfl rfl rfl rfl rfl (fun w hs => dN rfl rfl (aH (aF (dP (dM rfl rfl (lp (cS rfl) rfl (aH (bJ rfl (fun hc4 => ?_) (fun hc4 => ?_)))))))))))))))
 obtain rfl : ok = false := by simpa using hc4
 refine dP (lp (bM (vs := []) (ps := []) rfl bz_72) rfl (aJ (dR 1 hs bT rfl rfl rfl rfl hzl (aG rfl) rfl (fun w hs => dN rfl rfl (aH (aV ⟨_, res2 ⟨_, rfl, aP bT (hs.g 1 rfl) rfl⟩ rfl, ?_⟩))))))
 exact ⟨V, _, false, rfl, (hs.drop hb10).drop hb8, rfl, aG rfl, .inr ⟨rfl, by simp only [body, hr.bad.1, Option.map_none]⟩⟩
 obtain rfl : ok = true := by simpa using hc4
 have hRR : RRec V { kind := 2, host := out } (recC { kind := 2, host := out } (.slice none 0 0) (.slice none 0 0) (.slice none 0 0)) := ⟨_, _, _, rfl, RB.nil V, RTexts.nil V, RPairs.nil V⟩
 replace hs : St ⟨w0, V, V⟩ _ [(b10, .cells (recC { kind := 2, host := out } (.slice none 0 0) (.slice none 0 0) (.slice none 0 0)).toArray 72 (0, 0)), (b8, .cells zz.toArray 72 (0, 0))] := hs
 refine aW (dP (lp (aO rfl (aP bT (hs.g 0 rfl) hRR.flat.2)) rfl (aJ (dR 1 hs bT rfl rfl rfl hRR.flat.2 hzl hRR.flat.1 rfl (fun w hs => dN rfl rfl (aH (aV ⟨_, res2 ⟨_, rfl, aP bT (hs.g 1 rfl) hRR.flat.2⟩ rfl, ?_⟩)))))))
 exact ⟨V, _, true, rfl, (hs.drop hb10).drop hb8, hRR.flat.2, hRR.flat.1, .inl ⟨rfl, _, by simp only [body, hr.ok, Option.map_some], hRR⟩⟩
set_option maxHeartbeats 1000000 in
theorem c_Body3 (hV : V.In w0) (hb : RB V mv l) (n : Nat) (hn : off = n) (len : Nat) {lv : Int} (hlv : lv = len) (h1 : n ≤ 1152921504606746970) (hlen : len ≤ 65536) (h2 : l.length ≤ 4294967296) :
  CallsV Tryz.prog 104 #[mv, .int .i64 off, .int .i64 3, .int .i64 lv] w0 fun v w' => ∃ (V' : Vw) (rc : List Value) (ok : Bool), v = .tuple #[.agg rc.toArray, .bool ok] ∧ St ⟨w0, V, V'⟩ w' [] ∧ SBody V' l n 3 len ok rc := by
 subst hn hlv
 obtain ⟨a, cap, rfl, hcap, ha⟩ := hb.form
 have hs := St.start hV
 refine aT [_, _, _, _] Tryz.func104 Tryz.ntmps104 Tryz.results104 rfl rfl (dP (aJ (aX hs z_72 rfl (fun b8 w hb8 he8 hs => dN rfl rfl (aH (dP (dM rfl rfl (lp (bL rfl (by rfl) (bu_72_5 _)) rfl (aJ (aX hs z_72 rfl (fun b10 w hb10 he10 hs => aJ (dR 0 hs bT rfl rfl rfl (by simp) (by simp) (aG (by decide +kernel)) rfl (fun w hs => ?_)))))))))))))
 obtain ⟨zz, hzl, hs⟩ : ∃ zz : List Value, zz.length = 16 ∧ St ⟨w0, V, V⟩ w [(b10, .cells (recC { kind := 3 } (.slice none 0 0) (.slice none 0 0) (.slice none 0 0)).toArray 72 (0, 0)), (b8, .cells zz.toArray 72 (0, 0))] := ⟨_, rfl, hs⟩
 refine aH (dP (dN rfl rfl (aH (dP (dM rfl rfl (dM rfl rfl (lp (bN rfl rfl (i64w (by omega))) rfl (dN rfl rfl (aH (aF (dP (dM rfl rfl (aH ?_)))))))))))))
 refine bQ (dP (lp (bI rfl rfl) rfl (dN rfl rfl (aH (aY rfl rfl (dP (lp (bI rfl rfl) rfl (dN rfl rfl (aH (aY rfl rfl (aF (dP (lp (bI rfl rfl) rfl ?_)))))))))))))
 refine dN rfl rfl (aH (aY rfl rfl (dP (lp (bI rfl rfl) rfl (dN rfl rfl (aH (cO rfl rfl (aW (cO rfl rfl (aB (dM rfl rfl (dM rfl rfl (aZ ok_144 rfl rfl (c_Name hs.isIn hb n rfl (by omega) (by omega)) rfl (fun v59 w HF => ?_))))))))))))))
 obtain ⟨hc, out, o, ok, rfl, hr⟩ := HF
 replace hs := hs.frame hc
 refine dM rfl rfl (dO rfl rfl rfl (dO rfl rfl rfl (dO rfl rfl rfl (lp (aR fo_72_7 rfl) rfl (aJ (dQ 0 hs k_9 rfl rfl rfl rfl rfl rfl rfl (fun w hs => dN rfl rfl (aH (aF (dP (dM rfl rfl (lp (cS rfl) rfl (aH (bJ rfl (fun hc5 => ?_) (fun hc5 => ?_)))))))))))))))
 obtain rfl : ok = false := by simpa using hc5
 refine dP (lp (bM (vs := []) (ps := []) rfl bz_72) rfl (aJ (dR 1 hs bT rfl rfl rfl rfl hzl (aG rfl) rfl (fun w hs => dN rfl rfl (aH (aV ⟨_, res2 ⟨_, rfl, aP bT (hs.g 1 rfl) rfl⟩ rfl, ?_⟩))))))
 exact ⟨V, _, false, rfl, (hs.drop hb10).drop hb8, rfl, aG rfl, .inr ⟨rfl, by simp only [body, hr.bad.1, Option.map_none]⟩⟩
 obtain rfl : ok = true := by simpa using hc5
 have hRR : RRec V { kind := 3, host := out } (recC { kind := 3, host := out } (.slice none 0 0) (.slice none 0 0) (.slice none 0 0)) := ⟨_, _, _, rfl, RB.nil V, RTexts.nil V, RPairs.nil V⟩
 replace hs : St ⟨w0, V, V⟩ _ [(b10, .cells (recC { kind := 3, host := out } (.slice none 0 0) (.slice none 0 0) (.slice none 0 0)).toArray 72 (0, 0)), (b8, .cells zz.toArray 72 (0, 0))] := hs
 refine aW (dP (lp (aO rfl (aP bT (hs.g 0 rfl) hRR.flat.2)) rfl (aJ (dR 1 hs bT rfl rfl rfl hRR.flat.2 hzl hRR.flat.1 rfl (fun w hs => dN rfl rfl (aH (aV ⟨_, res2 ⟨_, rfl, aP bT (hs.g 1 rfl) hRR.flat.2⟩ rfl, ?_⟩)))))))
 exact ⟨V, _, true, rfl, (hs.drop hb10).drop hb8, hRR.flat.2, hRR.flat.1, .inl ⟨rfl, _, by simp only [body, hr.ok, Option.map_some], hRR⟩⟩
set_option maxHeartbeats 1000000 in
theorem c_Body5 (hV : V.In w0) (hb : RB V mv l) (n : Nat) (hn : off = n) (len : Nat) {lv : Int} (hlv : lv = len) (h1 : n ≤ 1152921504606746970) (hlen : len ≤ 65536) (h2 : l.length ≤ 4294967296) :
  CallsV Tryz.prog 104 #[mv, .int .i64 off, .int .i64 5, .int .i64 lv] w0 fun v w' => ∃ (V' : Vw) (rc : List Value) (ok : Bool), v = .tuple #[.agg rc.toArray, .bool ok] ∧ St ⟨w0, V, V'⟩ w' [] ∧ SBody V' l n 5 len ok rc := by
 subst hn hlv
 obtain ⟨a, cap, rfl, hcap, ha⟩ := hb.form
 have hs := St.start hV
 refine aT [_, _, _, _] Tryz.func104 Tryz.ntmps104 Tryz.results104 rfl rfl (dP (aJ (aX hs z_72 rfl (fun b8 w hb8 he8 hs => dN rfl rfl (aH (dP (dM rfl rfl (lp (bL rfl (by rfl) (bu_72_5 _)) rfl (aJ (aX hs z_72 rfl (fun b10 w hb10 he10 hs => aJ (dR 0 hs bT rfl rfl rfl (by simp) (by simp) (aG (by decide +kernel)) rfl (fun w hs => ?_)))))))))))))
 obtain ⟨zz, hzl, hs⟩ : ∃ zz : List Value, zz.length = 16 ∧ St ⟨w0, V, V⟩ w [(b10, .cells (recC { kind := 5 } (.slice none 0 0) (.slice none 0 0) (.slice none 0 0)).toArray 72 (0, 0)), (b8, .cells zz.toArray 72 (0, 0))] := ⟨_, rfl, hs⟩
 refine aH (dP (dN rfl rfl (aH (dP (dM rfl rfl (dM rfl rfl (lp (bN rfl rfl (i64w (by omega))) rfl (dN rfl rfl (aH (aF (dP (dM rfl rfl (aH ?_)))))))))))))
 refine bQ (dP (lp (bI rfl rfl) rfl (dN rfl rfl (aH (aY rfl rfl (dP (lp (bI rfl rfl) rfl (dN rfl rfl (aH (aY rfl rfl (aF (dP (lp (bI rfl rfl) rfl ?_)))))))))))))
 refine dN rfl rfl (aH (aY rfl rfl (dP (lp (bI rfl rfl) rfl (dN rfl rfl (aH (aY rfl rfl (aB (lp (bI rfl rfl) rfl (dN rfl rfl (aH (cO rfl rfl (aB ?_)))))))))))))
 refine dM rfl rfl (dM rfl rfl (aZ ok_144 rfl rfl (c_Name hs.isIn hb n rfl (by omega) (by omega)) rfl (fun v59 w HF => ?_)))
 obtain ⟨hc, out, o, ok, rfl, hr⟩ := HF
 replace hs := hs.frame hc
 refine dM rfl rfl (dO rfl rfl rfl (dO rfl rfl rfl (dO rfl rfl rfl (lp (aR fo_72_7 rfl) rfl (aJ (dQ 0 hs k_9 rfl rfl rfl rfl rfl rfl rfl (fun w hs => dN rfl rfl (aH (aF (dP (dM rfl rfl (lp (cS rfl) rfl (aH (bJ rfl (fun hc5 => ?_) (fun hc5 => ?_)))))))))))))))
 obtain rfl : ok = false := by simpa using hc5
 refine dP (lp (bM (vs := []) (ps := []) rfl bz_72) rfl (aJ (dR 1 hs bT rfl rfl rfl rfl hzl (aG rfl) rfl (fun w hs => dN rfl rfl (aH (aV ⟨_, res2 ⟨_, rfl, aP bT (hs.g 1 rfl) rfl⟩ rfl, ?_⟩))))))
 exact ⟨V, _, false, rfl, (hs.drop hb10).drop hb8, rfl, aG rfl, .inr ⟨rfl, by simp only [body, hr.bad.1, Option.map_none]⟩⟩
 obtain rfl : ok = true := by simpa using hc5
 have hRR : RRec V { kind := 5, host := out } (recC { kind := 5, host := out } (.slice none 0 0) (.slice none 0 0) (.slice none 0 0)) := ⟨_, _, _, rfl, RB.nil V, RTexts.nil V, RPairs.nil V⟩
 replace hs : St ⟨w0, V, V⟩ _ [(b10, .cells (recC { kind := 5, host := out } (.slice none 0 0) (.slice none 0 0) (.slice none 0 0)).toArray 72 (0, 0)), (b8, .cells zz.toArray 72 (0, 0))] := hs
 refine aW (dP (lp (aO rfl (aP bT (hs.g 0 rfl) hRR.flat.2)) rfl (aJ (dR 1 hs bT rfl rfl rfl hRR.flat.2 hzl hRR.flat.1 rfl (fun w hs => dN rfl rfl (aH (aV ⟨_, res2 ⟨_, rfl, aP bT (hs.g 1 rfl) hRR.flat.2⟩ rfl, ?_⟩)))))))
 exact ⟨V, _, true, rfl, (hs.drop hb10).drop hb8, hRR.flat.2, hRR.flat.1, .inl ⟨rfl, _, by simp only [body, hr.ok, Option.map_some], hRR⟩⟩
set_option maxHeartbeats 1000000 in
theorem c_Body6 (hV : V.In w0) (hb : RB V mv l) (n : Nat) (hn : off = n) (len : Nat) {lv : Int} (hlv : lv = len) (h1 : n ≤ 1152921504606746970) (hlen : len ≤ 65536) (h2 : l.length ≤ 4294967296) :
  CallsV Tryz.prog 104 #[mv, .int .i64 off, .int .i64 6, .int .i64 lv] w0 fun v w' => ∃ (V' : Vw) (rc : List Value) (ok : Bool), v = .tuple #[.agg rc.toArray, .bool ok] ∧ St ⟨w0, V, V'⟩ w' [] ∧ SBody V' l n 6 len ok rc := by
 subst hn hlv
 obtain ⟨a, cap, rfl, hcap, ha⟩ := hb.form
 have hs := St.start hV
 refine aT [_, _, _, _] Tryz.func104 Tryz.ntmps104 Tryz.results104 rfl rfl (dP (aJ (aX hs z_72 rfl (fun b8 w hb8 he8 hs => dN rfl rfl (aH (dP (dM rfl rfl (lp (bL rfl (by rfl) (bu_72_5 _)) rfl (aJ (aX hs z_72 rfl (fun b10 w hb10 he10 hs => aJ (dR 0 hs bT rfl rfl rfl (by simp) (by simp) (aG (by decide +kernel)) rfl (fun w hs => ?_)))))))))))))
 obtain ⟨zz, hzl, hs⟩ : ∃ zz : List Value, zz.length = 16 ∧ St ⟨w0, V, V⟩ w [(b10, .cells (recC { kind := 6 } (.slice none 0 0) (.slice none 0 0) (.slice none 0 0)).toArray 72 (0, 0)), (b8, .cells zz.toArray 72 (0, 0))] := ⟨_, rfl, hs⟩
 refine aH (dP (dN rfl rfl (aH (dP (dM rfl rfl (dM rfl rfl (lp (bN rfl rfl (i64w (by omega))) rfl (dN rfl rfl (aH (aF (dP (dM rfl rfl (aH ?_)))))))))))))
 refine bQ (dP (lp (bI rfl rfl) rfl (dN rfl rfl (aH (aY rfl rfl (dP (lp (bI rfl rfl) rfl (dN rfl rfl (aH (aY rfl rfl (aF (dP (lp (bI rfl rfl) rfl ?_)))))))))))))
 refine dN rfl rfl (aH (aY rfl rfl (dP (lp (bI rfl rfl) rfl (dN rfl rfl (aH (aY rfl rfl (aB (lp (bI rfl rfl) rfl (dN rfl rfl (aH (aY rfl rfl (dP ?_)))))))))))))
 refine lp (bI rfl rfl) rfl (dN rfl rfl (aH (cO rfl rfl (dP (dM rfl rfl (dM rfl rfl (lp (aR fo_72_9 rfl) rfl (aJ (o_bslice (vls := [[.pointer (some ⟨b10, 9, none⟩)]]) el_261 hs rfl rfl rfl rfl (by simp) (by decide) (by decide) rfl (fun b70 w hb70 he70 hs => ?_))))))))))
 obtain ⟨V1, hle1, hbv, hs⟩ := hs.give hb70
 have hsv : SlV V1 1 (.slice (some ⟨b70, 0, none⟩) 1 1) 1 ([9].map fun q => Value.pointer (some ⟨b10, q, none⟩)) := SlV.cells (sp := []) (by rw [List.append_nil]; exact hbv) rfl (Nat.le_refl _)
 replace hb := hb.mono hle1
 refine aZ ok_145 rfl rfl (c_words hs.isIn hb n rfl (by omega) (by omega) (hs.g 0 rfl) (hs.off (k := 0) rfl) [9] (by simp [recC]) hsv (by decide)) rfl (fun v71 w HF => ?_)
 obtain ⟨ok, o, cs', rfl, hc, hws⟩ := HF
 replace hs := hs.frame1 (k := 0) rfl rfl hc
 have hws1 := words1 hws
 refine dM rfl rfl (dO rfl rfl rfl (dO rfl rfl rfl (dN rfl rfl (dN rfl rfl (aH (dP (dM rfl rfl (aH (bJ rfl (fun hc6 => ?_) (fun hc6 => ?_))))))))))
 subst hc6
 obtain ⟨hw, rfl, rfl⟩ := hws1.1 rfl
 replace hs : St ⟨w0, V, V1⟩ _ [(b10, .cells (recC { kind := 6, n1 := w16 l n } (.slice none 0 0) (.slice none 0 0) (.slice none 0 0)).toArray 72 (0, 0)), (b8, .cells zz.toArray 72 (0, 0))] := hs
 refine aB (dM rfl rfl (dM rfl rfl (aZ ok_144 rfl rfl (c_Name hs.isIn hb (n + 2) rfl (by omega) (by omega)) rfl (fun v78 w HF => ?_))))
 obtain ⟨hc, out, o, ok, rfl, hr⟩ := HF
 replace hs := hs.frame hc
 refine dM rfl rfl (dO rfl rfl rfl (dO rfl rfl rfl (dO rfl rfl rfl (lp (aR fo_72_7 rfl) rfl (aJ (dQ 0 hs k_9 rfl rfl rfl rfl rfl rfl rfl (fun w hs => dN rfl rfl (aH (aF (dP (dM rfl rfl (lp (cS rfl) rfl (aH (bJ rfl (fun hc7 => ?_) (fun hc7 => ?_)))))))))))))))
 obtain rfl : ok = false := by simpa using hc7
 refine dP (lp (bM (vs := []) (ps := []) rfl bz_72) rfl (aJ (dR 1 hs bT rfl rfl rfl rfl hzl (aG rfl) rfl (fun w hs => dN rfl rfl (aH (aV ⟨_, res2 ⟨_, rfl, aP bT (hs.g 1 rfl) rfl⟩ rfl, ?_⟩))))))
 exact ⟨V1, _, false, rfl, (hs.drop hb10).drop hb8, rfl, aG rfl, .inr ⟨rfl, by simp only [body, rd16_yes hw, Option.bind_some, hr.bad.1, Option.map_none]⟩⟩
 obtain rfl : ok = true := by simpa using hc7
 have hRR : RRec V1 { kind := 6, n1 := w16 l n, host := out } (recC { kind := 6, n1 := w16 l n, host := out } (.slice none 0 0) (.slice none 0 0) (.slice none 0 0)) := ⟨_, _, _, rfl, RB.nil V1, RTexts.nil V1, RPairs.nil V1⟩
 replace hs : St ⟨w0, V, V1⟩ _ [(b10, .cells (recC { kind := 6, n1 := w16 l n, host := out } (.slice none 0 0) (.slice none 0 0) (.slice none 0 0)).toArray 72 (0, 0)), (b8, .cells zz.toArray 72 (0, 0))] := hs
 refine aW (dP (lp (aO rfl (aP bT (hs.g 0 rfl) hRR.flat.2)) rfl (aJ (dR 1 hs bT rfl rfl rfl hRR.flat.2 hzl hRR.flat.1 rfl (fun w hs => dN rfl rfl (aH (aV ⟨_, res2 ⟨_, rfl, aP bT (hs.g 1 rfl) hRR.flat.2⟩ rfl, ?_⟩)))))))
 exact ⟨V1, _, true, rfl, (hs.drop hb10).drop hb8, hRR.flat.2, hRR.flat.1, .inl ⟨rfl, _, by simp only [body, rd16_yes hw, Option.bind_some, hr.ok, Option.map_some], hRR⟩⟩
 subst hc6
 have hw := hws1.2 rfl
 refine aW (aF (dP (dM rfl rfl (lp (cS rfl) rfl (aH (cO rfl rfl (dP (lp (bM (vs := []) (ps := []) rfl bz_72) rfl (aJ (dR 1 hs bT rfl rfl rfl rfl hzl (aG rfl) rfl (fun w hs => dN rfl rfl (aH (aV ⟨_, res2 ⟨_, rfl, aP bT (hs.g 1 rfl) rfl⟩ rfl, ?_⟩)))))))))))))
 exact ⟨V1, _, false, rfl, (hs.drop hb10).drop hb8, rfl, aG rfl, .inr ⟨rfl, by simp only [body, rd16_no hw, Option.bind_none]⟩⟩
set_option maxHeartbeats 1000000 in
theorem c_Body9 (hV : V.In w0) (hb : RB V mv l) (n : Nat) (hn : off = n) (len : Nat) {lv : Int} (hlv : lv = len) (h1 : n ≤ 1152921504606746970) (hlen : len ≤ 65536) (h2 : l.length ≤ 4294967296) :
  CallsV Tryz.prog 104 #[mv, .int .i64 off, .int .i64 9, .int .i64 lv] w0 fun v w' => ∃ (V' : Vw) (rc : List Value) (ok : Bool), v = .tuple #[.agg rc.toArray, .bool ok] ∧ St ⟨w0, V, V'⟩ w' [] ∧ SBody V' l n 9 len ok rc := by
 subst hn hlv
 obtain ⟨a, cap, rfl, hcap, ha⟩ := hb.form
 have hs := St.start hV
 refine aT [_, _, _, _] Tryz.func104 Tryz.ntmps104 Tryz.results104 rfl rfl (dP (aJ (aX hs z_72 rfl (fun b8 w hb8 he8 hs => dN rfl rfl (aH (dP (dM rfl rfl (lp (bL rfl (by rfl) (bu_72_5 _)) rfl (aJ (aX hs z_72 rfl (fun b10 w hb10 he10 hs => aJ (dR 0 hs bT rfl rfl rfl (by simp) (by simp) (aG (by decide +kernel)) rfl (fun w hs => ?_)))))))))))))
 obtain ⟨zz, hzl, hs⟩ : ∃ zz : List Value, zz.length = 16 ∧ St ⟨w0, V, V⟩ w [(b10, .cells (recC { kind := 9 } (.slice none 0 0) (.slice none 0 0) (.slice none 0 0)).toArray 72 (0, 0)), (b8, .cells zz.toArray 72 (0, 0))] := ⟨_, rfl, hs⟩
 refine aH (dP (dN rfl rfl (aH (dP (dM rfl rfl (dM rfl rfl (lp (bN rfl rfl (i64w (by omega))) rfl (dN rfl rfl (aH (aF (dP (dM rfl rfl (aH ?_)))))))))))))
 refine bQ (dP (lp (bI rfl rfl) rfl (dN rfl rfl (aH (aY rfl rfl (dP (lp (bI rfl rfl) rfl (dN rfl rfl (aH (aY rfl rfl (aF (dP (lp (bI rfl rfl) rfl ?_)))))))))))))
 refine dN rfl rfl (aH (aY rfl rfl (dP (lp (bI rfl rfl) rfl (dN rfl rfl (aH (aY rfl rfl (aB (lp (bI rfl rfl) rfl (dN rfl rfl (aH (aY rfl rfl (dP ?_)))))))))))))
 refine lp (bI rfl rfl) rfl (dN rfl rfl (aH (aY rfl rfl (dP (lp (bI rfl rfl) rfl (dN rfl rfl (aH (cO rfl rfl (dP (dM rfl rfl (dM rfl rfl (lp (aR fo_72_9 rfl) rfl (lp (aR fo_72_10 rfl) rfl ?_)))))))))))))
 refine lp (aR fo_72_11 rfl) rfl (aJ (o_bslice (vls := [[.pointer (some ⟨b10, 9, none⟩)], [.pointer (some ⟨b10, 10, none⟩)], [.pointer (some ⟨b10, 11, none⟩)]]) el_261 hs rfl rfl rfl rfl (by simp) (by decide) (by decide) rfl (fun b91 w hb91 he91 hs => ?_)))
 obtain ⟨V1, hle1, hbv, hs⟩ := hs.give hb91
 have hsv : SlV V1 1 (.slice (some ⟨b91, 0, none⟩) 3 3) 3 ([9, 10, 11].map fun q => Value.pointer (some ⟨b10, q, none⟩)) := SlV.cells (sp := []) (by rw [List.append_nil]; exact hbv) rfl (Nat.le_refl _)
 replace hb := hb.mono hle1
 refine aZ ok_145 rfl rfl (c_words hs.isIn hb n rfl (by omega) (by omega) (hs.g 0 rfl) (hs.off (k := 0) rfl) [9, 10, 11] (by simp [recC]) hsv (by decide)) rfl (fun v92 w HF => ?_)
 obtain ⟨ok, o, cs', rfl, hc, hws⟩ := HF
 replace hs := hs.frame1 (k := 0) rfl rfl hc
 have hws1 := words3 hws
 refine dM rfl rfl (dO rfl rfl rfl (dO rfl rfl rfl (dN rfl rfl (dN rfl rfl (aH (dP (dM rfl rfl (aH (bJ rfl (fun hc7 => ?_) (fun hc7 => ?_))))))))))
 subst hc7
 obtain ⟨hw, rfl, rfl⟩ := hws1.1 rfl
 replace hs : St ⟨w0, V, V1⟩ _ [(b10, .cells (recC { kind := 9, n1 := w16 l n, n2 := w16 l (n + 2), n3 := w16 l (n + 4) } (.slice none 0 0) (.slice none 0 0) (.slice none 0 0)).toArray 72 (0, 0)), (b8, .cells zz.toArray 72 (0, 0))] := hs
 refine aB (dM rfl rfl (dM rfl rfl (aZ ok_144 rfl rfl (c_Name hs.isIn hb (n + 6) rfl (by omega) (by omega)) rfl (fun v99 w HF => ?_))))
 obtain ⟨hc, out, o, ok, rfl, hr⟩ := HF
 replace hs := hs.frame hc
 refine dM rfl rfl (dO rfl rfl rfl (dO rfl rfl rfl (dO rfl rfl rfl (lp (aR fo_72_7 rfl) rfl (aJ (dQ 0 hs k_9 rfl rfl rfl rfl rfl rfl rfl (fun w hs => dN rfl rfl (aH (aF (dP (dM rfl rfl (lp (cS rfl) rfl (aH (bJ rfl (fun hc8 => ?_) (fun hc8 => ?_)))))))))))))))
 obtain rfl : ok = false := by simpa using hc8
 refine dP (lp (bM (vs := []) (ps := []) rfl bz_72) rfl (aJ (dR 1 hs bT rfl rfl rfl rfl hzl (aG rfl) rfl (fun w hs => dN rfl rfl (aH (aV ⟨_, res2 ⟨_, rfl, aP bT (hs.g 1 rfl) rfl⟩ rfl, ?_⟩))))))
 exact ⟨V1, _, false, rfl, (hs.drop hb10).drop hb8, rfl, aG rfl, .inr ⟨rfl, by simp only [body, rd16_yes (show n + 2 ≤ l.length by omega), rd16_yes (show n + 2 + 2 ≤ l.length by omega), rd16_yes (show n + 4 + 2 ≤ l.length by omega), Option.bind_some, hr.bad.1, Option.map_none]⟩⟩
 obtain rfl : ok = true := by simpa using hc8
 have hRR : RRec V1 { kind := 9, n1 := w16 l n, n2 := w16 l (n + 2), n3 := w16 l (n + 4), host := out } (recC { kind := 9, n1 := w16 l n, n2 := w16 l (n + 2), n3 := w16 l (n + 4), host := out } (.slice none 0 0) (.slice none 0 0) (.slice none 0 0)) := ⟨_, _, _, rfl, RB.nil V1, RTexts.nil V1, RPairs.nil V1⟩
 replace hs : St ⟨w0, V, V1⟩ _ [(b10, .cells (recC { kind := 9, n1 := w16 l n, n2 := w16 l (n + 2), n3 := w16 l (n + 4), host := out } (.slice none 0 0) (.slice none 0 0) (.slice none 0 0)).toArray 72 (0, 0)), (b8, .cells zz.toArray 72 (0, 0))] := hs
 refine aW (dP (lp (aO rfl (aP bT (hs.g 0 rfl) hRR.flat.2)) rfl (aJ (dR 1 hs bT rfl rfl rfl hRR.flat.2 hzl hRR.flat.1 rfl (fun w hs => dN rfl rfl (aH (aV ⟨_, res2 ⟨_, rfl, aP bT (hs.g 1 rfl) hRR.flat.2⟩ rfl, ?_⟩)))))))
 exact ⟨V1, _, true, rfl, (hs.drop hb10).drop hb8, hRR.flat.2, hRR.flat.1, .inl ⟨rfl, _, by simp only [body, rd16_yes (show n + 2 ≤ l.length by omega), rd16_yes (show n + 2 + 2 ≤ l.length by omega), rd16_yes (show n + 4 + 2 ≤ l.length by omega), Option.bind_some, hr.ok, Option.map_some], hRR⟩⟩
 subst hc7
 have hw := hws1.2 rfl
 refine aW (aF (dP (dM rfl rfl (lp (cS rfl) rfl (aH (cO rfl rfl (dP (lp (bM (vs := []) (ps := []) rfl bz_72) rfl (aJ (dR 1 hs bT rfl rfl rfl rfl hzl (aG rfl) rfl (fun w hs => dN rfl rfl (aH (aV ⟨_, res2 ⟨_, rfl, aP bT (hs.g 1 rfl) rfl⟩ rfl, ?_⟩)))))))))))))
 exact ⟨V1, _, false, rfl, (hs.drop hb10).drop hb8, rfl, aG rfl, .inr ⟨rfl, by simp only [body]; unfold rd16; split <;> first | rfl | (simp only [Option.bind_some]; split <;> first | rfl | (simp only [Option.bind_some]; rw [if_neg (by omega)]; rfl))⟩⟩
end
end Go.Proofs.YtmigokakpahgkaaGreatDoor

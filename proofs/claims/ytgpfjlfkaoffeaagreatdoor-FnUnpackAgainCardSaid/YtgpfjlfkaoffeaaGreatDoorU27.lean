/- The reference: questions, records' headers, numbers behind pointers. -/
import Derived.Test.YtgpfjlfkaoffeaaGreatDoorU26
set_option linter.all false
namespace Go.Proofs.YtgpfjlfkaoffeaaGreatDoor
open Go
theorem SName.ok {l : List UInt8} {n o : Nat} {out : List UInt8} (h : SName l n o true out) : name l n = some (out, o) := by
 rcases h with ⟨_, h⟩ | ⟨h, _⟩
 exact h
 cases h
theorem SName.bad {l : List UInt8} {n o : Nat} {out : List UInt8} (h : SName l n o false out) : name l n = none ∧ out = [] ∧ o = 0 := by
 rcases h with ⟨h, _⟩ | ⟨_, h⟩
 cases h
 exact h
theorem R16.okB {l : List UInt8} {n x o : Nat} (h : R16 l n x o (bK true)) : rd16 l n = some x ∧ o = n + 2 ∧ x = w16 l n ∧ n + 2 ≤ l.length := R16.ok h
theorem R32.okB {l : List UInt8} {n x o : Nat} (h : R32 l n x o (bK true)) : rd32 l n = some x ∧ o = n + 4 ∧ x = w32 l n ∧ n + 4 ≤ l.length := R32.ok h
theorem R16.badB {l : List UInt8} {n x o : Nat} (h : R16 l n x o (bK false)) : rd16 l n = none ∧ l.length < n + 2 ∧ x = 0 ∧ o = n := by
 have h1 := R16.badlen h (by decide)
 rcases h with ⟨h, _⟩ | ⟨_, h2, h3, h4⟩
 cases h
 exact ⟨h2, h1.2, h3, h4⟩
theorem R32.badB {l : List UInt8} {n x o : Nat} (h : R32 l n x o (bK false)) : rd32 l n = none ∧ x = 0 ∧ o = n := by
 rcases h with ⟨h, _⟩ | ⟨_, h2, h3, h4⟩
 cases h
 exact ⟨h2, h3, h4⟩
section
variable {V : Vw} {w0 : World} {l : List UInt8} {mv : Value} {off : Int}
def SAsk (l : List UInt8) (n o : Nat) (ok : Bool) (acs : List Value) : Prop := acs.length = 3 ∧ Flat acs ∧ ((ok = true ∧ ∃ a, ask l n = some (a, o) ∧ acs = askC a) ∨ (ok = false ∧ ask l n = none))
set_option maxHeartbeats 1000000 in
theorem c_Ask (hV : V.In w0) (hb : RB V mv l) (n : Nat) (hn : off = n) (h1 : n ≤ 1152921504606846976) (h2 : l.length ≤ 4294967296) :
  eC Tryz.prog 177 #[mv, .int .i64 off] w0 fun v w' => St ⟨w0, V, V⟩ w' [] ∧ ∃ (acs : List Value) (o : Nat) (ok : Bool), v = .tuple #[.agg acs.toArray, .int .i64 o, .bool ok] ∧ SAsk l n o ok acs := by
 subst hn
 have hs := St.start hV
 refine aT [_, _] Tryz.func177 Tryz.ntmps177 Tryz.results177 rfl rfl (dP (aJ (aX hs z_77 rfl (fun b4 w hb4 he4 hs => dN rfl rfl (dN rfl rfl (aH (dP (lp (bM (vs := []) (ps := []) rfl bz_77) rfl (aJ (aX hs z_77 rfl (fun b7 w hb7 he7 hs => aJ (dR 0 hs k_77 rfl rfl rfl (by simp) (by simp) (aG (by decide +kernel)) rfl (fun w hs => dN rfl rfl (aH (dP (dM rfl rfl ?_))))))))))))))))
 refine dM rfl rfl (aZ ok_182 rfl rfl (c_Name hs.isIn hb n rfl h1 h2) rfl (fun v13 w HF => ?_))
 obtain ⟨hc, out, o, ok, rfl, hr⟩ := HF
 replace hs := hs.frame hc
 refine dM rfl rfl (dO rfl rfl rfl (dO rfl rfl rfl (dO rfl rfl rfl (lp (aR fo_77_0 rfl) rfl (aJ (dQ 0 hs k_9 rfl rfl rfl rfl rfl rfl rfl (fun w hs => dN rfl rfl (dN rfl rfl (aH (aF (dP (dM rfl rfl (aH (bJ rfl (fun hc0 => ?_) (fun hc0 => ?_)))))))))))))))
 subst hc0
 have hname := hr.ok
 have hol := (name_some hname).2.2
 refine aB (dM rfl rfl (dM rfl rfl (aZ ok_174 rfl rfl (c_two hs.isIn hb o rfl (by omega) (by omega)) rfl (fun v22 w HF => ?_))))
 obtain ⟨hc, x, o1, ok, rfl, hr2⟩ := HF
 replace hs := hs.frame hc
 refine dM rfl rfl (dO rfl rfl rfl (dO rfl rfl rfl (dO rfl rfl rfl (lp (aR fo_77_1 rfl) rfl (aJ (dQ 0 hs eS rfl rfl rfl rfl rfl rfl rfl (fun w hs => dN rfl rfl (dN rfl rfl (aH (aF (dP (dM rfl rfl (aH (bJ rfl (fun hc1 => ?_) (fun hc1 => ?_)))))))))))))))
 subst hc1
 obtain ⟨ht, rfl, hx, hl1⟩ := hr2.okB
 refine aB (dM rfl rfl (dM rfl rfl (aZ ok_174 rfl rfl (c_two hs.isIn hb (o + 2) rfl (by omega) (by omega)) rfl (fun v31 w HF => ?_))))
 obtain ⟨hc, y, o2, ok, rfl, hr3⟩ := HF
 replace hs := hs.frame hc
 refine dM rfl rfl (dO rfl rfl rfl (dO rfl rfl rfl (dO rfl rfl rfl (lp (aR fo_77_2 rfl) rfl (aJ (dQ 0 hs eS rfl rfl rfl rfl rfl rfl rfl (fun w hs => dN rfl rfl (dN rfl rfl (aH (dP (lp (aO rfl (aP k_77 (hs.g 0 rfl) (by simp))) rfl (dM rfl rfl (dM rfl rfl (aJ (dR 1 hs k_77 rfl rfl rfl (by simp) (by simp) (aG rfl) rfl (fun w hs => ?_))))))))))))))))
 refine dN rfl rfl (dN rfl rfl (aH (aV ⟨_, res3 ⟨_, rfl, aP k_77 (hs.g 1 rfl) rfl⟩ rfl rfl, ⟨(hs.drop hb7).drop hb4, _, o2, ok, rfl, rfl, aG rfl, ?_⟩⟩)))
 cases ok
 exact .inr ⟨rfl, by simp [ask, hname, ht, hr3.badB.1]⟩
 obtain ⟨hcl, rfl, _, _⟩ := hr3.okB
 exact .inl ⟨rfl, ⟨out, x, y⟩, by simp only [ask, hname, ht, hcl, Option.bind_some, Option.map_some], rfl⟩
 subst hc1
 refine aW (dP (lp (aO rfl (aP k_77 (hs.g 0 rfl) (by simp))) rfl (dM rfl rfl (dM rfl rfl (aJ (dR 1 hs k_77 rfl rfl rfl (by simp) (by simp) (aG rfl) rfl (fun w hs => dN rfl rfl (dN rfl rfl (aH (aV ⟨_, res3 ⟨_, rfl, aP k_77 (hs.g 1 rfl) rfl⟩ rfl rfl, ?_⟩))))))))))
 exact ⟨(hs.drop hb7).drop hb4, _, _, false, rfl, rfl, aG rfl, .inr ⟨rfl, by simp [ask, hname, hr2.badB.1]⟩⟩
 subst hc0
 refine aW (aF (dP (dM rfl rfl (aH (aY rfl rfl (aW (dP (lp (aO rfl (aP k_77 (hs.g 0 rfl) (by simp))) rfl (dM rfl rfl (dM rfl rfl (aJ (dR 1 hs k_77 rfl rfl rfl (by simp) (by simp) (aG rfl) rfl (fun w hs => dN rfl rfl (dN rfl rfl ?_))))))))))))))
 refine aH (aV ⟨_, res3 ⟨_, rfl, aP k_77 (hs.g 1 rfl) rfl⟩ rfl rfl, ?_⟩)
 exact ⟨(hs.drop hb7).drop hb4, _, _, false, rfl, rfl, aG rfl, .inr ⟨rfl, by simp [ask, hr.bad.1]⟩⟩
def SHdr (l : List UInt8) (n o : Nat) (ok : Bool) (rcs : List Value) : Prop := rcs.length = 16 ∧ Flat rcs ∧ ((ok = true ∧ ∃ r, header l n = some (r, o) ∧ rcs = eY r (.slice none 0 0) (.slice none 0 0) (.slice none 0 0)) ∨ (ok = false ∧ header l n = none))
set_option maxHeartbeats 1000000 in
theorem c_Start (hV : V.In w0) (hb : RB V mv l) (n : Nat) (hn : off = n) (h1 : n ≤ 1152921504606846976) (h2 : l.length ≤ 4294967296) :
  eC Tryz.prog 179 #[mv, .int .i64 off] w0 fun v w' => St ⟨w0, V, V⟩ w' [] ∧ ∃ (rcs : List Value) (o : Nat) (ok : Bool), v = .tuple #[.agg rcs.toArray, .int .i64 o, .bool ok] ∧ SHdr l n o ok rcs := by
 subst hn
 have hs := St.start hV
 refine aT [_, _] Tryz.func179 Tryz.ntmps179 Tryz.results179 rfl rfl (dP (aJ (aX hs z_30 rfl (fun b4 w hb4 he4 hs => dN rfl rfl (dN rfl rfl (aH (dP (lp (bM (vs := []) (ps := []) rfl bz_30) rfl (aJ (aX hs z_30 rfl (fun b7 w hb7 he7 hs => aJ (dR 0 hs eJ rfl rfl rfl (by simp) (by simp) (aG (by decide +kernel)) rfl (fun w hs => dN rfl rfl (aH (dP (dM rfl rfl ?_))))))))))))))))
 refine dM rfl rfl (aZ ok_182 rfl rfl (c_Name hs.isIn hb n rfl h1 h2) rfl (fun v13 w HF => ?_))
 obtain ⟨hc, out, o, ok, rfl, hr⟩ := HF
 replace hs := hs.frame hc
 refine dM rfl rfl (dO rfl rfl rfl (dO rfl rfl rfl (dO rfl rfl rfl (lp (aR fo_30_0 rfl) rfl (aJ (dQ 0 hs k_9 rfl rfl rfl rfl rfl rfl rfl (fun w hs => dN rfl rfl (dN rfl rfl (aH (aF (dP (dM rfl rfl (aH (bJ rfl (fun hc0 => ?_) (fun hc0 => ?_)))))))))))))))
 subst hc0
 have hname := hr.ok
 have hol := (name_some hname).2.2
 refine aB (dM rfl rfl (dM rfl rfl (aZ ok_174 rfl rfl (c_two hs.isIn hb o rfl (by omega) (by omega)) rfl (fun v22 w HF => ?_))))
 obtain ⟨hc, x, o1, ok, rfl, hr2⟩ := HF
 replace hs := hs.frame hc
 refine dM rfl rfl (dO rfl rfl rfl (dO rfl rfl rfl (dO rfl rfl rfl (lp (aR fo_30_1 rfl) rfl (aJ (dQ 0 hs eS rfl rfl rfl rfl rfl rfl rfl (fun w hs => dN rfl rfl (dN rfl rfl (aH (aF (dP (dM rfl rfl (aH (bJ rfl (fun hc1 => ?_) (fun hc1 => ?_)))))))))))))))
 subst hc1
 obtain ⟨ht, rfl, hx, hl1⟩ := hr2.okB
 refine aB (dM rfl rfl (dM rfl rfl (aZ ok_174 rfl rfl (c_two hs.isIn hb (o + 2) rfl (by omega) (by omega)) rfl (fun v31 w HF => ?_))))
 obtain ⟨hc, y, o2, ok, rfl, hr3⟩ := HF
 replace hs := hs.frame hc
 refine dM rfl rfl (dO rfl rfl rfl (dO rfl rfl rfl (dO rfl rfl rfl (lp (aR fo_30_2 rfl) rfl (aJ (dQ 0 hs eS rfl rfl rfl rfl rfl rfl rfl (fun w hs => dN rfl rfl (dN rfl rfl (aH (aF (dP (dM rfl rfl (aH (bJ rfl (fun hc2 => ?_) (fun hc2 => ?_)))))))))))))))
 subst hc2
 obtain ⟨hcl, rfl, hy, hl2⟩ := hr3.okB
 refine aB (dM rfl rfl (dM rfl rfl (aZ ok_184 rfl rfl (c_four hs.isIn hb (o + 2 + 2) rfl (by omega) (by omega)) rfl (fun v40 w HF => ?_))))
 obtain ⟨hc, z, o3, ok, rfl, hr4⟩ := HF
 replace hs := hs.frame hc
 refine dM rfl rfl (dO rfl rfl rfl (dO rfl rfl rfl (dO rfl rfl rfl (lp (aR fo_30_3 rfl) rfl (aJ (dQ 0 hs cB rfl rfl rfl rfl rfl rfl rfl (fun w hs => dN rfl rfl (dN rfl rfl (aH (aF (dP (dM rfl rfl (aH (bJ rfl (fun hc3 => ?_) (fun hc3 => ?_)))))))))))))))
 subst hc3
 obtain ⟨httl, rfl, hz, hl3⟩ := hr4.okB
 refine aB (dM rfl rfl (dM rfl rfl (aZ ok_174 rfl rfl (c_two hs.isIn hb (o + 2 + 2 + 4) rfl (by omega) (by omega)) rfl (fun v49 w HF => ?_))))
 obtain ⟨hc, u, o4, ok, rfl, hr5⟩ := HF
 replace hs := hs.frame hc
 refine dM rfl rfl (dO rfl rfl rfl (dO rfl rfl rfl (dO rfl rfl rfl (lp (aR fo_30_4 rfl) rfl (aJ (dQ 0 hs eS rfl rfl rfl rfl rfl rfl rfl (fun w hs => dN rfl rfl (dN rfl rfl (aH (dP (lp (aO rfl (aP eJ (hs.g 0 rfl) (by simp))) rfl (dM rfl rfl (dM rfl rfl (aJ (dR 1 hs eJ rfl rfl rfl (by simp) (by simp) (aG rfl) rfl (fun w hs => ?_))))))))))))))))
 refine dN rfl rfl (dN rfl rfl (aH (aV ⟨_, res3 ⟨_, rfl, aP eJ (hs.g 1 rfl) rfl⟩ rfl rfl, ⟨(hs.drop hb7).drop hb4, _, o4, ok, rfl, rfl, aG rfl, ?_⟩⟩)))
 cases ok
 exact .inr ⟨rfl, by simp [header, hname, ht, hcl, httl, hr5.badB.1]⟩
 obtain ⟨hlen, rfl, _, _⟩ := hr5.okB
 exact .inl ⟨rfl, { name := out, type := x, cls := y, ttl := z, length := u }, by simp only [header, hname, ht, hcl, httl, hlen, Option.bind_some, Option.map_some], rfl⟩
 subst hc3
 refine aW (dP (lp (aO rfl (aP eJ (hs.g 0 rfl) (by simp))) rfl (dM rfl rfl (dM rfl rfl (aJ (dR 1 hs eJ rfl rfl rfl (by simp) (by simp) (aG rfl) rfl (fun w hs => dN rfl rfl (dN rfl rfl (aH (aV ⟨_, res3 ⟨_, rfl, aP eJ (hs.g 1 rfl) rfl⟩ rfl rfl, ?_⟩))))))))))
 exact ⟨(hs.drop hb7).drop hb4, _, _, false, rfl, rfl, aG rfl, .inr ⟨rfl, by simp [header, hname, ht, hcl, hr4.badB.1]⟩⟩
 subst hc2
 refine aW (aF (dP (dM rfl rfl (aH (aY rfl rfl (aW (dP (lp (aO rfl (aP eJ (hs.g 0 rfl) (by simp))) rfl (dM rfl rfl (dM rfl rfl (aJ (dR 1 hs eJ rfl rfl rfl (by simp) (by simp) (aG rfl) rfl (fun w hs => dN rfl rfl (dN rfl rfl ?_))))))))))))))
 refine aH (aV ⟨_, res3 ⟨_, rfl, aP eJ (hs.g 1 rfl) rfl⟩ rfl rfl, ?_⟩)
 exact ⟨(hs.drop hb7).drop hb4, _, _, false, rfl, rfl, aG rfl, .inr ⟨rfl, by simp [header, hname, ht, hr3.badB.1]⟩⟩
 subst hc1
 refine aW (aF (dP (dM rfl rfl (aH (aY rfl rfl (aW (aF (dP (dM rfl rfl (aH (aY rfl rfl (aW (dP ?_)))))))))))))
 refine lp (aO rfl (aP eJ (hs.g 0 rfl) (by simp))) rfl (dM rfl rfl (dM rfl rfl (aJ (dR 1 hs eJ rfl rfl rfl (by simp) (by simp) (aG rfl) rfl (fun w hs => dN rfl rfl (dN rfl rfl (aH (aV ⟨_, res3 ⟨_, rfl, aP eJ (hs.g 1 rfl) rfl⟩ rfl rfl, ?_⟩))))))))
 exact ⟨(hs.drop hb7).drop hb4, _, _, false, rfl, rfl, aG rfl, .inr ⟨rfl, by simp [header, hname, hr2.badB.1]⟩⟩
 subst hc0
 refine aW (aF (dP (dM rfl rfl (aH (aY rfl rfl (aW (aF (dP (dM rfl rfl (aH (aY rfl rfl (aW (aF ?_)))))))))))))
 refine dP (dM rfl rfl (aH (aY rfl rfl (aW (dP (lp (aO rfl (aP eJ (hs.g 0 rfl) (by simp))) rfl (dM rfl rfl (dM rfl rfl (aJ (dR 1 hs eJ rfl rfl rfl (by simp) (by simp) (aG rfl) rfl (fun w hs => dN rfl rfl (dN rfl rfl (aH (aV ?_))))))))))))))
 refine ⟨_, res3 ⟨_, rfl, aP eJ (hs.g 1 rfl) rfl⟩ rfl rfl, ?_⟩
 exact ⟨(hs.drop hb7).drop hb4, _, _, false, rfl, rfl, aG rfl, .inr ⟨rfl, by simp [header, hr.bad.1]⟩⟩
def wordsS (l : List UInt8) : Nat → List Nat → List Value → Bool × Nat × List Value
 | n, [], cs => (true, n, cs)
 | n, q :: qs, cs => if n + 2 ≤ l.length then wordsS l (n + 2) qs (cs.set q (.int .u32 (w16 l n))) else (false, n, cs)
set_option maxHeartbeats 1000000 in
theorem c_words (hV : V.In w0) (hb : RB V mv l) (n : Nat) (hn : off = n) (h1 : n ≤ 1152921504606746976) (h2 : l.length ≤ 4294967296) {rb : Nat} {E : TypeId} {cs : List Value} (hown : w0.heap[rb]? = some (.cells cs.toArray E (0, 0))) (hvn : V rb = none)
  (qs : List Nat) (hq : ∀ q ∈ qs, q < cs.length) {lv : Value} (hlv : SlV V 1 lv qs.length (qs.map fun q => .pointer (some ⟨rb, q, none⟩))) (hql : qs.length ≤ 1000) :
  eC Tryz.prog 183 #[mv, .int .i64 off, lv] w0 fun v w' => ∃ (ok : Bool) (o : Nat) (cs' : List Value), v = .tuple #[.int .i64 o, .bool ok] ∧ St ⟨w0, V, V⟩ w' [(rb, .cells cs'.toArray E (0, 0))] ∧ wordsS l n qs cs = (ok, o, cs') := by
 subst hn
 obtain ⟨a, cap, rfl, hcap, ha⟩ := hlv.form
 have hs := St.start1 hV hown (bU _ _) hvn
 refine aT [_, _, _] Tryz.func183 Tryz.ntmps183 Tryz.results183 rfl rfl (dP (dN rfl rfl (dN rfl rfl (aH (aF (dP (dM rfl rfl (lp (bC Tryz.underlying324 rfl) rfl (dM rfl rfl (aH (bQ (dC (fun g : Nat × Nat × List Value => eH (eH (eH (eH (eH emp 15 (.int .i64 g.1)) 14 (.int .i64 qs.length)) 13 (.slice a qs.length cap)) 1 (.int .i64 g.2.1)) 0 mv) (fun g w' => St ⟨w0, V, V⟩ w' [(rb, .cells g.2.2.toArray E (0, 0))] ∧ wordsS l g.2.1 (qs.drop g.1) g.2.2 = wordsS l n qs cs ∧ g.1 ≤ qs.length ∧ g.2.1 = n + 2 * g.1 ∧ g.2.2.length = cs.length) (fun g => qs.length - g.1) (0, n, cs) (aL rfl (aL rfl (aL rfl (aL rfl (aL rfl (bG _)))))) ⟨hs, by simp, Nat.zero_le _, rfl, rfl⟩ ?_))))))))))))
 clear hs
 rintro ⟨j, i, cc⟩ w ⟨hs, hw, hj, hi, hcl⟩
 simp only at hs hw hj hi hcl ⊢
 refine dP (lp (cY rfl rfl) rfl (aH (aF (bH rfl (fun hc0 => ?_) (fun hc0 => ?_)))))
 obtain ⟨b, p, rfl, hc⟩ := ha (by omega)
 have hjl : j < qs.length := by omega
 obtain ⟨q, hqj⟩ : ∃ q, qs[j]? = some q := ⟨_, List.getElem?_eq_getElem hjl⟩
 have hdrop : qs.drop j = q :: qs.drop (j + 1) := by
  rw [List.drop_eq_getElem_cons hjl]
  rw [List.getElem?_eq_getElem hjl] at hqj
  rw [Option.some.inj hqj]
 have hql2 : q < cc.length := by rw [hcl]; exact hq q (List.mem_of_getElem? hqj)
 rw [hdrop] at hw
 refine aW (aF (bQ (dP (lp (eZ j (p + j * 1) es_324 rfl rfl rfl hjl rfl) rfl (lp (aO rfl (bR (v := .pointer (some ⟨rb, q, none⟩)) k_323 (by rw [Nat.mul_one]; exact Vw.cell_in hs.isIn (hc _ _ (by simp [hqj]))))) rfl (dN rfl rfl (aH (dP (dM rfl rfl (dM rfl rfl (aZ ok_174 rfl rfl (c_two hs.isIn hb i rfl (by omega) (by omega)) rfl (fun v22 w HF => ?_))))))))))))
 obtain ⟨hc2, x, o, ok, rfl, hr⟩ := HF
 replace hs := hs.frame hc2
 refine dM rfl rfl (dO rfl rfl rfl (dO rfl rfl rfl (dO rfl rfl rfl (dN rfl rfl (dN rfl rfl (dN rfl rfl (aH (aF (dP (dM rfl rfl (lp (cS rfl) rfl (aH (bJ rfl (fun hc1 => ?_) (fun hc1 => ?_))))))))))))))
 obtain rfl : ok = false := by simpa using hc1
 obtain ⟨_, hlt, rfl, rfl⟩ := hr.badB
 refine dP (dM rfl rfl (dN rfl rfl (dN rfl rfl (aH (aV ⟨_, fX rfl rfl, ?_⟩)))))
 rw [wordsS, if_neg (by omega)] at hw
 exact ⟨false, _, _, rfl, hs, hw.symm⟩
 obtain rfl : ok = true := by simpa using hc1
 obtain ⟨_, rfl, rfl, hle⟩ := hr.okB
 have hxl := w16_lt l i
 refine aW (dP (dM rfl rfl (dM rfl rfl (lp (bY Tryz.underlying22 Tryz.underlying27 rfl (u32c (c := w16 l i) rfl (by omega))) rfl (lp (aN rfl) rfl (aJ (o_storeP (k := 0) hs cB rfl rfl rfl rfl rfl hql2 rfl rfl (fun w hs => aH (aB (dM rfl rfl (dN rfl rfl (aH (aB (lp (bN rfl rfl (fV (c := j + 1) (by omega) (by omega))) rfl ?_))))))))))))))
 refine dM rfl rfl (aH ?_)
 exact ⟨(j + 1, i + 2, _), aL rfl (aL rfl (aL rfl (aL rfl (aL rfl (bG _))))), ⟨hs, by rw [← hw]; conv => rhs; rw [wordsS, if_pos hle], by simp only; omega, by simp only; omega, by simp [hcl]⟩, by simp only; omega⟩
 refine eT (aF ?_)
 have hjn : j = qs.length := by omega
 subst hjn
 rw [List.drop_length, wordsS] at hw
 refine aB (dM rfl rfl (dN rfl rfl (dN rfl rfl (aH (aV ⟨_, fX rfl rfl, ?_⟩)))))
 exact ⟨true, _, _, rfl, hs, hw.symm⟩
end
end Go.Proofs.YtgpfjlfkaoffeaaGreatDoor

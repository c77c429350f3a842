/- Names of sections looked up. The parser: its cells, the counts, the step on. Headers of records read, records passed over. The parser: a record's header, a record passed over. Bodies that are names or addresses. -/
import Derived.Test.YtgpfjlfkaoffeaaGreatDoorR09
import Derived.MapKept
import Derived.Test.YtgpfjlfkaoffeaaGreatDoorR05
set_option linter.all false
namespace Go.Proofs.YtgpfjlfkaoffeaaGreatDoor
open Go
def zeroIs (P : Program) (T : TypeId) (v : Value → Bool) : Bool :=
 match P.info? T with
 | some i => match i.zero with
  | some z => v z
  | none => false
 | none => false
def isEmptyStr : Value → Bool
 | .string s => s.size == 0
 | _ => false
theorem zero_string : zeroIs Tryz.prog 9 isEmptyStr = true := by kernel_rfl
theorem secName {V : Vw} {m : Nat} {es : Array MapEntry} {c : Nat} (hm : V m = some (.map es c))
  (hes : ∀ k : Int, ∃ r, Instr.findNow (.int .u8) (.int .u8 k) es.toList 0 = some r ∧ ∀ i v, r = some (i, v) → ∃ s : ByteArray, v = .string s ∧ s.size ≤ 100) (k : Int) :
  ∃ s : ByteArray, s.size ≤ 100 ∧ ∀ (w : World) (ρ : Env) (x y : Operand), V.In w → ev ρ x = some (.map (some m)) → ev ρ y = some (.int .u8 k) → PO Tryz.prog (.lookup 336 x y false) ρ w (.string s) := by
 obtain ⟨r, h1, h2⟩ := hes k
 have hg : ∀ w, V.In w → (getObj m).run Tryz.prog w = .ok (.map es c) w := fun w hV => MapKept.run_getObj_map (hV _ _ hm)
 have hk : ∀ w e n, (Instr.checkKey e (n + 1) 98 (.int .u8 k)).run Tryz.prog w = .ok () w := fun w e n => by simp [Instr.checkKey, run_underlying Tryz.underlying98]
 have hf : ∀ w, (Instr.findKey 98 (.int .u8 k) es.toList).run Tryz.prog w = .ok r w := fun w => by simp [Instr.findKey, run_underlying Tryz.underlying98, h1]
 cases r with
 | none =>
  have hz0 := zero_string
  unfold zeroIs at hz0
  split at hz0
  rename_i i hi
  split at hz0
  rename_i z hz
  cases z with
  | string s =>
   have hsz : s.size = 0 := by simpa [isEmptyStr] using hz0
   have hzv : ∀ w, (zeroValue 9).run Tryz.prog w = .ok (.string s) w := fun w => by simp [zeroValue, typeInfo, hi, hz]
   refine ⟨s, by omega, fun w ρ x y hV hx hy o e ho he => ?_⟩
   simp [execOp, ho, he _ _ hx, he _ _ hy, Instr.lookup, run_underlying Tryz.underlying336, hg w hV, hk, hf, hzv]
  | _ => simp [isEmptyStr] at hz0
  cases hz0
  cases hz0
 | some p =>
  obtain ⟨i, v⟩ := p
  obtain ⟨s, rfl, hs⟩ := h2 i v rfl
  refine ⟨s, hs, fun w ρ x y hV hx hy o e ho he => ?_⟩
  simp [execOp, ho, he _ _ hx, he _ _ hy, Instr.lookup, run_underlying Tryz.underlying336, hg w hV, hk, hf]
end Go.Proofs.YtgpfjlfkaoffeaaGreatDoor
namespace Go.Proofs.YtgpfjlfkaoffeaaGreatDoor
open Go
def secI (s : Nat) : Nat := if s = 0 then 0 else s + 1
theorem secI_cases (s : Nat) : s = 0 ∧ secI s = 0 ∨ 1 ≤ s ∧ secI s = s + 1 := by
 unfold secI
 split
 exact .inl ⟨by assumption, rfl⟩
 exact .inr ⟨by omega, rfl⟩
theorem secI_succ (s : Nat) : secI (s + 1) = s + 1 + 1 := by unfold secI; rw [if_neg (by omega)]
def parC (m0 : Value) (x1 x2 x3 x4 x5 x6 : Nat) (m : PM) : List Value :=
 [m0, .int .u16 x1, .int .u16 x2, .int .u16 x3, .int .u16 x4, .int .u16 x5, .int .u16 x6, .int .u8 (secI m.sec), .int .i64 m.at_, .int .i64 m.index, .bool m.valid, .int .i64 m.headAt, .int .u16 m.htype, .int .u16 m.hlen]
def PR (l : List UInt8) (mv : Value) (m : PM) (cs : List Value) : Prop :=
 ∃ m0 x1 x2 x3 x4 x5 x6, cs = parC m0 x1 x2 x3 x4 x5 x6 m ∧ ((m0 = mv ∨ m0 = .slice none 0 0) ∧ x4 < 65536 ∧ x5 < 65536 ∧ x6 < 65536) ∧
  (1 ≤ m.sec → m0 = mv ∧ x1 = w16 l 0 ∧ x2 = w16 l 2 ∧ x3 = count l 1 ∧ x4 = count l 2 ∧ x5 = count l 3 ∧ x6 = count l 4)
theorem PR.mk {l : List UInt8} {mv : Value} {m : PM} {cs : List Value} (h : cs = parC mv (w16 l 0) (w16 l 2) (count l 1) (count l 2) (count l 3) (count l 4) m) : PR l mv m cs :=
 ⟨mv, _, _, _, _, _, _, h, ⟨.inl rfl, cW _ _, cW _ _, cW _ _⟩, fun _ => ⟨rfl, rfl, rfl, rfl, rfl, rfl, rfl⟩⟩
theorem PR.get {l : List UInt8} {mv : Value} {m : PM} {cs : List Value} (h : PR l mv m cs) (hs : 1 ≤ m.sec) : cs = parC mv (w16 l 0) (w16 l 2) (count l 1) (count l 2) (count l 3) (count l 4) m := by
 obtain ⟨m0, x1, x2, x3, x4, x5, x6, h1, h2, h3⟩ := h
 obtain ⟨rfl, rfl, rfl, rfl, rfl, rfl, rfl⟩ := h3 hs
 exact h1
section
variable {A : Nat → Addr} {V : Vw} {w0 : World} {l : List UInt8} {mv : Value} {bp : Nat} {E : TypeId}
theorem c_count (hV : V.In w0) {m0 : Value} {x1 x2 : Nat} {tl : List Value}
  (hown : w0.heap[bp]? = some (.cells (m0 :: .int .u16 x1 :: .int .u16 x2 :: .int .u16 (count l 1) :: .int .u16 (count l 2) :: .int .u16 (count l 3) :: .int .u16 (count l 4) :: tl).toArray E (0, 0))) (hvn : V bp = none)
  (s : Nat) {sv : Int} (hsv : sv = (s + 1 : Nat)) (h1 : 1 ≤ s) (h2 : s ≤ 4) :
  eC Tryz.prog 188 #[.pointer (some ⟨bp, 1, none⟩), .int .u8 sv] w0 fun v w' =>
   St ⟨w0, V, V⟩ w' [(bp, .cells (m0 :: .int .u16 x1 :: .int .u16 x2 :: .int .u16 (count l 1) :: .int .u16 (count l 2) :: .int .u16 (count l 3) :: .int .u16 (count l 4) :: tl).toArray E (0, 0))] ∧ v = .int .u16 (count l s) := by
 subst hsv
 have hs := St.start1 hV hown (bU _ _) hvn
 refine aT [_, _] Tryz.func188 Tryz.ntmps188 Tryz.results188 rfl rfl (dP (dN rfl rfl (aH (aF (dP (dM rfl rfl (aH (bQ (dP (lp (bI rfl rfl) rfl (dN rfl rfl (aH (bH rfl (fun hc0 => ?_) (fun hc0 => ?_))))))))))))))
 refine dP (dM rfl rfl (lp (aN rfl) rfl (lp (bD fo_97_2 rfl) rfl (lp (aO rfl (aQ eS (hs.g 0 rfl) rfl)) rfl (dN rfl rfl (aH (aV ⟨_, fW rfl, ?_⟩)))))))
 have : s = 1 := by omega
 subst this
 exact ⟨hs, rfl⟩
 refine dP (lp (bI rfl rfl) rfl (dN rfl rfl (aH (bH rfl (fun hc1 => ?_) (fun hc1 => ?_)))))
 refine dP (dM rfl rfl (lp (aN rfl) rfl (lp (bD fo_97_3 rfl) rfl (lp (aO rfl (aQ eS (hs.g 0 rfl) rfl)) rfl (dN rfl rfl (aH (aV ⟨_, fW rfl, ?_⟩)))))))
 have : s = 2 := by omega
 subst this
 exact ⟨hs, rfl⟩
 refine dP (lp (bI rfl rfl) rfl (dN rfl rfl (aH (bH rfl (fun hc2 => ?_) (fun hc2 => ?_)))))
 refine dP (dM rfl rfl (lp (aN rfl) rfl (lp (bD fo_97_4 rfl) rfl (lp (aO rfl (aQ eS (hs.g 0 rfl) rfl)) rfl (dN rfl rfl (aH (aV ⟨_, fW rfl, ?_⟩)))))))
 have : s = 3 := by omega
 subst this
 exact ⟨hs, rfl⟩
 refine dP (lp (bI rfl rfl) rfl (dN rfl rfl (aH (bH rfl (fun hc3 => ?_) (fun hc3 => ?_)))))
 refine dP (dM rfl rfl (lp (aN rfl) rfl (lp (bD fo_97_5 rfl) rfl (lp (aO rfl (aQ eS (hs.g 0 rfl) rfl)) rfl (dN rfl rfl (aH (aV ⟨_, fW rfl, ?_⟩)))))))
 have : s = 4 := by omega
 subst this
 exact ⟨hs, rfl⟩
 refine aW (dP (dN rfl rfl (aH (aV ?_))))
 exfalso; omega
theorem c_checkAdvance (hG : Gl A V) (hV : V.In w0) {m : PM} {cs : List Value} (hown : w0.heap[bp]? = some (.cells cs.toArray E (0, 0))) (hvn : V bp = none) (hp : PR l mv m cs) (hs6 : m.sec ≤ 5)
  (s : Nat) {sv : Int} (hsv : sv = (s + 1 : Nat)) (h1 : 1 ≤ s) (h2 : s ≤ 4) :
  eC Tryz.prog 150 #[.pointer (some ⟨bp, 0, none⟩), .int .u8 sv] w0 fun v w' => ∃ cs', St ⟨w0, V, V⟩ w' [(bp, .cells cs'.toArray E (0, 0))] ∧ PR l mv (fH l m s).2 cs' ∧ ErrV A v (fH l m s).1 := by
 subst hsv
 have hsI := secI_cases m.sec
 have hcnt := cW l m.sec
 have hp' := hp
 obtain ⟨m0, x1, x2, x3, x4, x5, x6, rfl, hm0, hx⟩ := hp'
 have hs := St.start1 hV hown (bU _ _) hvn
 refine aT [_, _] Tryz.func150 Tryz.ntmps150 Tryz.results150 rfl rfl (dP (dN rfl rfl (aH (aF (dP (dM rfl rfl (lp (aN rfl) rfl (lp (aR fo_100_2 rfl) rfl (lp (aO rfl (aQ k_98 (hs.g 0 rfl) rfl)) rfl (dM rfl rfl (lp (cY rfl rfl) rfl (aH (bH rfl (fun hc0 => ?_) (fun hc0 => ?_))))))))))))))
 refine dP (lp (aO rfl (bR k_57 (hG.ld hs.isIn (g := 4) rfl))) rfl (dN rfl rfl (aH (aV ⟨_, fW rfl, ?_⟩))))
 have hadv : fH l m s = (.early, m) := by unfold fH; rw [if_pos (by omega)]
 rw [hadv]
 exact ⟨_, hs, hp, rfl⟩
 · refine aW (aF (dP (dM rfl rfl (lp (aN rfl) rfl (lp (aR fo_100_2 rfl) rfl (lp (aO rfl (aQ k_98 (hs.g 0 rfl) rfl)) rfl (dM rfl rfl (lp (cQ rfl rfl) rfl (aH (bH rfl (fun hc1 => ?_) (fun hc1 => ?_)))))))))))
   · refine dP (lp (aO rfl (bR k_57 (hG.ld hs.isIn (g := 5) rfl))) rfl (dN rfl rfl (aH (aV ⟨_, fW rfl, ?_⟩))))
     have hadv : fH l m s = (.done, m) := by unfold fH; rw [if_neg (by omega), if_pos (by omega)]
     rw [hadv]
     exact ⟨_, hs, hp, rfl⟩
   · refine aW (aF ?_)
     have hss : m.sec = s := by omega
     subst hss
     obtain ⟨rfl, rfl, rfl, rfl, rfl, rfl, rfl⟩ := hx h1
     refine aB (dM rfl rfl (lp (aN rfl) rfl (lp (aR fo_100_5 rfl) rfl (aJ (dQ 0 hs k_4 rfl rfl rfl rfl rfl rfl rfl (fun w hs => aH (aF (aF (bV hs [3] mixed (fun w hs => dI 0 rfl (fun w => aC rfl) rfl rfl (dI 1 rfl (fun w => aN rfl) rfl rfl (dI 2 rfl (fun w => aR fo_100_4 rfl) rfl rfl (dJ 3 rfl hs rfl (fun w hs => (aO rfl (aQ cH (hs.g 0 rfl) rfl))) rfl (dI 4 rfl (fun w => aC rfl) rfl rfl ?_))))))))))))))
     refine dI 5 rfl (fun w => aN rfl) rfl rfl (dI 6 rfl (fun w => aR fo_100_1 rfl) rfl rfl (dI 7 rfl (fun w => aC rfl) rfl rfl (dL 8 rfl (cF (cD rfl rfl ok_188 (c_count (l := l) hs.isIn (hs.g 0 rfl) (hs.off (k := 0) rfl) m.sec rfl h1 h2)) rfl (fun v30 w HF => ?_)))))
     obtain ⟨hc, rfl⟩ := HF
     replace hs := hs.frame1 (k := 0) rfl rfl hc
     refine ⟨fun _ => hs, dI 9 rfl (fun w => (bY Tryz.underlying22 Tryz.underlying3 rfl (fV (c := count l m.sec) rfl (by omega)))) rfl rfl (dI 10 rfl (fun w => bI rfl rfl) rfl rfl (bS (by decide +kernel) (bH rfl (fun hc2 => ?_) (fun hc2 => ?_))))⟩
     · refine dP (dM rfl rfl (lp (aN rfl) rfl (lp (aR fo_100_4 rfl) rfl (aJ (dQ 0 hs cH rfl rfl rfl rfl rfl rfl rfl (fun w hs => aH (dP (dM rfl rfl (lp (aN rfl) rfl (lp (aR fo_100_2 rfl) rfl (lp (aO rfl (aQ k_98 (hs.g 0 rfl) rfl)) rfl (lp (bN rfl rfl (u8c (c := m.sec + 1 + 1) (by omega) (by omega))) rfl (lp (aN rfl) rfl (lp (aR fo_100_2 rfl) rfl ?_))))))))))))))
       refine aJ (dQ 0 hs k_98 rfl rfl rfl rfl rfl rfl rfl (fun w hs => aH (dP (lp (aO rfl (bR k_57 (hG.ld hs.isIn (g := 5) rfl))) rfl (dN rfl rfl (aH (aV ⟨_, fW rfl, ?_⟩)))))))
       have hadv : fH l m m.sec = (.done, { m with valid := false, index := 0, sec := m.sec + 1 }) := by unfold fH; rw [if_neg (by omega), if_neg (by omega), if_pos (by omega)]
       rw [hadv]
       exact ⟨_, hs, PR.mk (by unfold parC; rw [secI_succ]; rfl), rfl⟩
     refine aW (dP (dN rfl rfl (aH (aV ⟨_, fW rfl, ?_⟩))))
     have hadv : fH l m m.sec = (.ok, { m with valid := false }) := by unfold fH; rw [if_neg (by omega), if_neg (by omega), if_neg (by omega)]
     rw [hadv]
     exact ⟨_, hs, PR.mk rfl, rfl⟩
end
end Go.Proofs.YtgpfjlfkaoffeaaGreatDoor
namespace Go.Proofs.YtgpfjlfkaoffeaaGreatDoor
open Go
def hdrC (r : fY) : List Value := nmC r.name r.name.length ++ [.int .u16 r.type, .int .u16 r.cls, .int .u32 r.ttl, .int .u16 r.length]
theorem rep256 : rep 256 (Value.int .u8 0) = nmC [] 0 := by
 have : (256 : Nat) = 255 + 1 := rfl
 rw [this, rep, List.replicate_succ']
 rfl
theorem RPass.ok {l : List UInt8} {n o : Nat} (h : RPass l n o .ok) : pass l n = some o := by
 rcases h with ⟨_, h1⟩ | ⟨h, _⟩
 exact h1
 cases h
theorem RPass.bad {l : List UInt8} {n o : Nat} {k : EK} (h : RPass l n o k) (hk : k ≠ .ok) : k = .other ∧ pass l n = none := by
 rcases h with ⟨h, _⟩ | h
 exact (hk h).elim
 exact h
theorem RSk.ok {l : List UInt8} {n d o : Nat} (h : RSk l n d o .ok) : n + d ≤ l.length ∧ o = n + d := by
 rcases h with ⟨_, h1⟩ | ⟨h, _⟩
 exact h1
 cases h
theorem RSk.bad {l : List UInt8} {n d o : Nat} {k : EK} (h : RSk l n d o k) (hk : k ≠ .ok) : k = .other ∧ l.length < n + d := by
 rcases h with ⟨h, _⟩ | ⟨h, h2, _⟩
 exact (hk h).elim
 exact ⟨h, h2⟩
section
variable {A : Nat → Addr} {V : Vw} {w0 : World} {l : List UInt8} {mv : Value} {off : Int}
theorem c_hdrUnpack (hG : Gl A V) (hV : V.In w0) (hb : RB V mv l) {nb : Nat} {E : TypeId} (hown : w0.heap[nb]? = some (.cells (hdrC {}).toArray E (0, 0))) (hvn : V nb = none) (n : Nat) (hn : off = n) (h1 : n ≤ 1152921504606846976) (h2 : l.length ≤ 1152921504606846975) :
  eC Tryz.prog 190 #[.pointer (some ⟨nb, 0, none⟩), mv, .int .i64 off] w0 fun v w' => ∃ (o : Nat) (k : EK) (e : Value) (cs' : List Value), v = .tuple #[.int .i64 o, e] ∧ ErrV A e k ∧
   St ⟨w0, V, V⟩ w' [(nb, .cells cs'.toArray E (0, 0))] ∧ ((∃ r, k = .ok ∧ header l n = some (r, o) ∧ cs' = hdrC r) ∨ (k = .other ∧ header l n = none)) := by
 subst hn
 have hs := St.start1 hV hown (bU _ _) hvn
 refine aT [_, _, _] Tryz.func190 Tryz.ntmps190 Tryz.results190 rfl rfl (dP (dN rfl rfl (dN rfl rfl (aH (dP (dM rfl rfl (dN rfl rfl (aH (dP (dN rfl rfl (aH (aF (dP ?_)))))))))))))
 refine dM rfl rfl (lp (aN rfl) rfl (lp (aR fo_112_0 rfl) rfl (dM rfl rfl (dM rfl rfl (aZ ok_151 rfl rfl (c_nameUnpack (pre := []) (post := [.int .u16 0, .int .u16 0, .int .u32 0, .int .u16 0]) hG hs.isIn hb rfl (hs.g 0 rfl) (hs.off (k := 0) rfl) n rfl h1 (by omega)) rfl (fun v17 w HF => ?_))))))
 obtain ⟨o, k, e, out, z, rfl, he, ho, hz, hc, hr⟩ := HF
 replace hs := hs.frame1 (k := 0) rfl rfl hc
 rw [List.nil_append] at hs
 have hnl := cM (n := z) (Nat.le_trans ho (by decide : 254 ≤ 255))
 refine dM rfl rfl (dO rfl rfl rfl (dO rfl rfl rfl (dN rfl rfl (dN rfl rfl (aH (dP (dM rfl rfl (lp (bB he rfl) rfl (aH (bH rfl (fun hc0 => ?_) (fun hc0 => ?_)))))))))))
 refine dP (dM rfl rfl (dM rfl rfl (lp (bL rfl (by (simp only [List.all_cons, List.all_nil, he.oneCell]; rfl)) (eI _ _)) rfl (aJ (cR hs rfl rfl rfl (fun b25 w hb25 hbe25 hs => ?_))))))
 replace hs := hs.drop hb25
 refine lp (cG Tryz.underlying139 (fun _ h => by cases h) rfl) rfl (dN rfl rfl (dN rfl rfl (aH (aV ⟨_, fX rfl rfl, ?_⟩))))
 exact ⟨n, .other, _, _, rfl, dA, hs, .inr ⟨rfl, by simp [header, (hr.bad hc0).2]⟩⟩
 have hk : k = .ok := by simpa using hc0
 subst hk
 obtain ⟨hname, rfl⟩ := hr.ok
 have hol := (name_some hname).2.2
 refine aW (aF (dP (dM rfl rfl (dM rfl rfl (dM rfl rfl (aZ ok_152 rfl rfl (c_unpackType hG hs.isIn hb o rfl (by omega) (by omega)) rfl (fun v31 w HF => ?_)))))))
 obtain ⟨hc, x1, o1, k, e, rfl, he, hr⟩ := HF
 replace hs := hs.frame hc
 refine dM rfl rfl (dO rfl rfl rfl (dO rfl rfl rfl (dO rfl rfl rfl (lp (aN rfl) rfl (lp (aR fo_112_1 rfl) rfl (aJ (o_storeP (k := 0) hs k_87 rfl rfl rfl rfl rfl (by simp [hnl]) (set_behind (i := 0) hnl _) rfl (fun w hs => dN rfl rfl (dN rfl rfl (aH (dP (dM rfl rfl (lp (bB he rfl) rfl (aH ?_))))))))))))))
 refine bH rfl (fun hc1 => ?_) (fun hc1 => ?_)
 refine dP (dM rfl rfl (dM rfl rfl (lp (bL rfl (by (simp only [List.all_cons, List.all_nil, he.oneCell]; rfl)) (eI _ _)) rfl (aJ (cR hs rfl rfl rfl (fun b42 w hb42 hbe42 hs => ?_))))))
 replace hs := hs.drop hb42
 refine lp (cG Tryz.underlying139 (fun _ h => by cases h) rfl) rfl (dN rfl rfl (dN rfl rfl (aH (aV ⟨_, fX rfl rfl, ?_⟩))))
 exact ⟨n, .other, _, _, rfl, dA, hs, .inr ⟨rfl, by simp [header, hname, (hr.bad hc1).2]⟩⟩
 have hk : k = .ok := by simpa using hc1
 subst hk
 obtain ⟨ht, rfl, hx1, hl1⟩ := hr.ok
 refine aW (aF (dP (dM rfl rfl (dM rfl rfl (dM rfl rfl (aZ ok_153 rfl rfl (c_unpackClass hG hs.isIn hb (o + 2) rfl (by omega) (by omega)) rfl (fun v48 w HF => ?_)))))))
 obtain ⟨hc, x2, o2, k, e, rfl, he, hr⟩ := HF
 replace hs := hs.frame hc
 refine dM rfl rfl (dO rfl rfl rfl (dO rfl rfl rfl (dO rfl rfl rfl (lp (aN rfl) rfl (lp (aR fo_112_2 rfl) rfl (aJ (o_storeP (k := 0) hs k_88 rfl rfl rfl rfl rfl (by simp [hnl]) (set_behind (i := 1) hnl _) rfl (fun w hs => dN rfl rfl (dN rfl rfl (aH (dP (dM rfl rfl (lp (bB he rfl) rfl (aH ?_))))))))))))))
 refine bH rfl (fun hc2 => ?_) (fun hc2 => ?_)
 refine dP (dM rfl rfl (dM rfl rfl (lp (bL rfl (by (simp only [List.all_cons, List.all_nil, he.oneCell]; rfl)) (eI _ _)) rfl (aJ (cR hs rfl rfl rfl (fun b59 w hb59 hbe59 hs => ?_))))))
 replace hs := hs.drop hb59
 refine lp (cG Tryz.underlying139 (fun _ h => by cases h) rfl) rfl (dN rfl rfl (dN rfl rfl (aH (aV ⟨_, fX rfl rfl, ?_⟩))))
 exact ⟨n, .other, _, _, rfl, dA, hs, .inr ⟨rfl, by simp [header, hname, ht, (hr.bad hc2).2]⟩⟩
 have hk : k = .ok := by simpa using hc2
 subst hk
 obtain ⟨hcl, rfl, hx2, hl2⟩ := hr.ok
 refine aW (aF (dP (dM rfl rfl (dM rfl rfl (dM rfl rfl (aZ ok_194 rfl rfl (c_unpackUint32 hG hs.isIn hb (o + 4) (by omega) (by omega) (by omega)) rfl (fun v65 w HF => ?_)))))))
 obtain ⟨hc, x3, o3, k, e, rfl, he, hr⟩ := HF
 replace hs := hs.frame hc
 refine dM rfl rfl (dO rfl rfl rfl (dO rfl rfl rfl (dO rfl rfl rfl (lp (aN rfl) rfl (lp (aR fo_112_3 rfl) rfl (aJ (o_storeP (k := 0) hs cB rfl rfl rfl rfl rfl (by simp [hnl]) (set_behind (i := 2) hnl _) rfl (fun w hs => dN rfl rfl (dN rfl rfl (aH (dP (dM rfl rfl (lp (bB he rfl) rfl (aH ?_))))))))))))))
 refine bH rfl (fun hc3 => ?_) (fun hc3 => ?_)
 refine dP (dM rfl rfl (dM rfl rfl (lp (bL rfl (by (simp only [List.all_cons, List.all_nil, he.oneCell]; rfl)) (eI _ _)) rfl (aJ (cR hs rfl rfl rfl (fun b76 w hb76 hbe76 hs => ?_))))))
 replace hs := hs.drop hb76
 refine lp (cG Tryz.underlying139 (fun _ h => by cases h) rfl) rfl (dN rfl rfl (dN rfl rfl (aH (aV ⟨_, fX rfl rfl, ?_⟩))))
 exact ⟨n, .other, _, _, rfl, dA, hs, .inr ⟨rfl, by simp [header, hname, ht, hcl, (hr.bad hc3).2]⟩⟩
 have hk : k = .ok := by simpa using hc3
 subst hk
 obtain ⟨httl, rfl, hx3, hl3⟩ := hr.ok
 refine aW (aF (dP (dM rfl rfl (dM rfl rfl (dM rfl rfl (aZ ok_149 rfl rfl (cP hG hs.isIn hb (o + 8) (by omega) (by omega) (by omega)) rfl (fun v82 w HF => ?_)))))))
 obtain ⟨hc, x4, o4, k, e, rfl, he, hr⟩ := HF
 replace hs := hs.frame hc
 refine dM rfl rfl (dO rfl rfl rfl (dO rfl rfl rfl (dO rfl rfl rfl (lp (aN rfl) rfl (lp (aR fo_112_4 rfl) rfl (aJ (o_storeP (k := 0) hs eS rfl rfl rfl rfl rfl (by simp [hnl]) (set_behind (i := 3) hnl _) rfl (fun w hs => dN rfl rfl (dN rfl rfl (aH (dP (dM rfl rfl (lp (bB he rfl) rfl (aH ?_))))))))))))))
 refine bH rfl (fun hc4 => ?_) (fun hc4 => ?_)
 refine dP (dM rfl rfl (dM rfl rfl (lp (bL rfl (by (simp only [List.all_cons, List.all_nil, he.oneCell]; rfl)) (eI _ _)) rfl (aJ (cR hs rfl rfl rfl (fun b93 w hb93 hbe93 hs => ?_))))))
 replace hs := hs.drop hb93
 refine lp (cG Tryz.underlying139 (fun _ h => by cases h) rfl) rfl (dN rfl rfl (dN rfl rfl (aH (aV ⟨_, fX rfl rfl, ?_⟩))))
 exact ⟨n, .other, _, _, rfl, dA, hs, .inr ⟨rfl, by simp [header, hname, ht, hcl, httl, (hr.bad hc4).2]⟩⟩
 have hk : k = .ok := by simpa using hc4
 subst hk
 obtain ⟨hlen, rfl, hx4, hl4⟩ := hr.ok
 refine aW (dP (dM rfl rfl (dN rfl rfl (dN rfl rfl (aH (aV ⟨_, fX rfl rfl, ?_⟩))))))
 exact ⟨_, .ok, _, _, rfl, rfl, hs, .inl ⟨_, rfl, by simp only [header, hname, ht, hcl, httl, hlen, Option.bind_some, Option.map_some]; rfl, rfl⟩⟩
end
end Go.Proofs.YtgpfjlfkaoffeaaGreatDoor
namespace Go.Proofs.YtgpfjlfkaoffeaaGreatDoor
open Go
theorem advance_ok {l : List UInt8} {m m2 : PM} {s : Nat} (h : fH l m s = (.ok, m2)) : m.sec = s ∧ m2 = { m with valid := false } ∧ m.index ≠ count l s := by
 unfold fH at h
 split at h
 cases h
 split at h
 cases h
 split at h
 cases h
 cases h
 exact ⟨by omega, rfl, by assumption⟩
theorem header_some {l : List UInt8} {n o : Nat} {r : fY} (h : header l n = some (r, o)) : r.name.length ≤ 254 ∧ o ≤ l.length ∧ r.type < 65536 ∧ r.length < 65536 := by
 simp only [header, Option.bind_eq_some_iff, Option.map_eq_some_iff] at h
 obtain ⟨x, h1, t, h2, c, h3, ttl, h4, len, h5, h6⟩ := h
 cases h6
 have h7 := name_some h1
 have h8 := rd16_some h5
 have h9 := rd16_some h2
 have := w16_lt l (x.2 + 8)
 have := w16_lt l x.2
 exact ⟨h7.2.1, by omega, by show t < 65536; omega, by show len < 65536; omega⟩
theorem hdrC_len {r : fY} (h : r.name.length ≤ 254) : (hdrC r).length = 260 := by
 unfold hdrC; rw [List.length_append, cM (by omega)]; rfl
theorem flat_hdrC (r : fY) : Flat (hdrC r) := fD (eU _ _) (bX rfl (bX rfl (bX rfl (bX rfl eQ))))
def m1Of (m : PM) : PM := if m.valid then { m with at_ := m.headAt } else m
theorem beginM_bad {l : List UInt8} {m m2 : PM} {s : Nat} {k : EK} (h : fH l (m1Of m) s = (k, m2)) (hk : k ≠ .ok) : beginM l m s = (k, none, m2) := by
 unfold beginM
 rw [show (if m.valid then { m with at_ := m.headAt } else m) = m1Of m from rfl, h]
 cases k <;> first | rfl | exact absurd rfl hk
theorem beginM_none {l : List UInt8} {m m2 : PM} {s : Nat} (h : fH l (m1Of m) s = (.ok, m2)) (hk : header l m2.at_ = none) : beginM l m s = (.other, none, m2) := by
 unfold beginM
 rw [show (if m.valid then { m with at_ := m.headAt } else m) = m1Of m from rfl, h]
 simp only [hk]
theorem beginM_some {l : List UInt8} {m m2 : PM} {s : Nat} {r : fY} {o : Nat} (h : fH l (m1Of m) s = (.ok, m2)) (hk : header l m2.at_ = some (r, o)) :
  beginM l m s = (.ok, some r, { m2 with valid := true, headAt := m2.at_, htype := r.type, hlen := r.length, at_ := o }) := by
 unfold beginM
 rw [show (if m.valid then { m with at_ := m.headAt } else m) = m1Of m from rfl, h]
 simp only [hk]
theorem m1Of_sec (m : PM) : (m1Of m).sec = m.sec := by unfold m1Of; split <;> rfl
theorem m1Of_at {l : List UInt8} {m : PM} (h : WF l m) : (m1Of m).at_ ≤ l.length + 65535 := by
 unfold m1Of
 split
 rename_i hv
 have := (h.idxV hv).2
 simp only; omega
 exact h.at_le
theorem PR.m1 {l : List UInt8} {mv : Value} {m0 : Value} {x1 x2 x3 x4 x5 x6 : Nat} {m : PM} (hm0 : (m0 = mv ∨ m0 = .slice none 0 0) ∧ x4 < 65536 ∧ x5 < 65536 ∧ x6 < 65536) (hx : 1 ≤ m.sec → m0 = mv ∧ x1 = w16 l 0 ∧ x2 = w16 l 2 ∧ x3 = count l 1 ∧ x4 = count l 2 ∧ x5 = count l 3 ∧ x6 = count l 4) :
  PR l mv (m1Of m) (parC m0 x1 x2 x3 x4 x5 x6 (m1Of m)) := ⟨m0, x1, x2, x3, x4, x5, x6, rfl, hm0, by rw [m1Of_sec]; exact hx⟩
section
variable {A : Nat → Addr} {V : Vw} {w0 : World} {l : List UInt8} {mv : Value} {bp : Nat} {E : TypeId}
theorem c_resourceHeader (hG : Gl A V) (hV : V.In w0) (hb : RB V mv l) {m : PM} {cs : List Value} (hown : w0.heap[bp]? = some (.cells cs.toArray E (0, 0))) (hvn : V bp = none) (hp : PR l mv m cs) (hwf : WF l m) (h2l : l.length ≤ 4294967296)
  (s : Nat) {sv : Int} (hsv : sv = (s + 1 : Nat)) (h1 : 1 ≤ s) (h2 : s ≤ 4) :
  eC Tryz.prog 157 #[.pointer (some ⟨bp, 0, none⟩), .int .u8 sv] w0 fun v w' => ∃ (cs' hcs : List Value) (e : Value) (k : EK) (ro : Option fY) (m' : PM), v = .tuple #[.agg hcs.toArray, e] ∧
   St ⟨w0, V, V⟩ w' [(bp, .cells cs'.toArray E (0, 0))] ∧ beginM l m s = (k, ro, m') ∧ PR l mv m' cs' ∧ ErrV A e k ∧ ((∃ r, k = .ok ∧ ro = some r ∧ hcs = hdrC r ∧ r.name.length ≤ 254) ∨ (k ≠ .ok ∧ hcs = hdrC {})) := by
 subst hsv
 have hs6 := hwf.secs
 obtain ⟨m0, x1, x2, x3, x4, x5, x6, rfl, hm0, hx⟩ := hp
 have hs := St.start1 hV hown (bU _ _) hvn
 have hz : rep 256 (Value.int .u8 0) ++ [.int .u16 0, .int .u16 0, .int .u32 0, .int .u16 0] = hdrC {} := by rw [rep256]; rfl
 refine aT [_, _] Tryz.func157 Tryz.ntmps157 Tryz.results157 rfl rfl (dP (aJ (aX hs z_112 rfl (fun b4 w hb4 he4 hs => ?_))))
 rw [hz] at hs
 refine dN rfl rfl (aH (dG (fun ρ w => Sub (eH (eH (eH emp 4 (.pointer (some ⟨b4, 0, none⟩))) 1 (.int .u8 (s + 1 : Nat))) 0 (.pointer (some ⟨bp, 0, none⟩))) ρ ∧ St ⟨w0, V, V⟩ w [(b4, .cells (hdrC {}).toArray 112 (0, 0)), (bp, .cells (parC m0 x1 x2 x3 x4 x5 x6 (m1Of m)).toArray E (0, 0))]) ?_ ?_))
 refine dP (dM rfl rfl (lp (aN rfl) rfl (lp (aR fo_100_5 rfl) rfl (lp (aO rfl (aQ k_4 (hs.g 1 rfl) rfl)) rfl (aH (bJ rfl (fun hc0 => ?_) (fun hc0 => ?_)))))))
 refine aB (dM rfl rfl (dM rfl rfl (lp (aN rfl) rfl (lp (aR fo_100_6 rfl) rfl (lp (aO rfl (aQ cH (hs.g 1 rfl) rfl)) rfl (lp (aN rfl) rfl (lp (aR fo_100_3 rfl) rfl (aJ (dQ 1 hs cH rfl rfl rfl rfl rfl rfl rfl (fun w hs => aH ?_))))))))))
 have e : m1Of m = { m with at_ := m.headAt } := by unfold m1Of; rw [if_pos hc0]
 rw [e]
 exact ⟨aL rfl (aL rfl (aL rfl (bG _))), hs⟩
 refine aW ?_
 have e : m1Of m = m := by unfold m1Of; rw [if_neg (by rw [hc0]; decide)]
 rw [e]
 exact ⟨aL rfl (aL rfl (aL rfl (bG _))), hs⟩
 clear hs
 rintro ρ w ⟨hsub, hs⟩
 refine EW.weaken hsub (aF (dP (dM rfl rfl (dM rfl rfl (aZ ok_150 rfl rfl (c_checkAdvance hG hs.isIn (hs.g 1 rfl) (hs.off (k := 1) rfl) (PR.m1 hm0 hx) (by rw [m1Of_sec]; exact hs6) s rfl h1 h2) rfl (fun v23 w HF => ?_))))))
 obtain ⟨cs', hc, hp, he⟩ := HF
 replace hs := hs.frame1 (k := 1) rfl rfl hc
 obtain ⟨k, m2, hadv⟩ : ∃ k m2, fH l (m1Of m) s = (k, m2) := ⟨_, _, rfl⟩
 rw [hadv] at hp he
 simp only at hp he
 refine dN rfl rfl (aH (dP (dM rfl rfl (lp (bB he rfl) rfl (aH (bH rfl (fun hc1 => ?_) (fun hc1 => ?_)))))))
 refine dP (lp (bM (vs := []) (ps := []) rfl bz_112) rfl (dM rfl rfl (aJ (dR 0 hs k_112 rfl rfl rfl (by simp) (hdrC_len (by simp)) (by rw [hz]; exact flat_hdrC _) rfl (fun w hs => ?_)))))
 rw [hz] at hs
 refine dN rfl rfl (aH (aV ⟨_, fX ⟨_, rfl, aP k_112 (hs.g 0 rfl) (hdrC_len (by simp))⟩ rfl, ?_⟩))
 exact ⟨_, _, _, k, none, m2, rfl, hs.drop hb4, beginM_bad hadv hc1, hp, he, .inr ⟨hc1, rfl⟩⟩
 have hk : k = .ok := by simpa using hc1
 subst hk
 obtain ⟨hss, hm2, _⟩ := advance_ok hadv
 rw [m1Of_sec] at hss
 have hsec2 : m2.sec = s := by rw [hm2, ← hss]; exact m1Of_sec m
 obtain rfl := hp.get (by omega)
 have hat := m1Of_at hwf
 have hat2 : m2.at_ ≤ l.length + 65535 := by rw [hm2]; exact hat
 refine aW (dP (aJ (aX hs z_112 rfl (fun b7 w hb7 he7 hs => ?_))))
 rw [hz] at hs
 refine aH (aF (bV hs [3, 7] mixed (fun w hs => dI 0 rfl (fun w => aC rfl) rfl rfl (dI 1 rfl (fun w => aN rfl) rfl rfl (dI 2 rfl (fun w => aR fo_100_0 rfl) rfl rfl (dJ 3 rfl hs rfl (fun w hs => (aO rfl (aQ k_23 (hs.g 2 rfl) rfl))) rfl (dI 4 rfl (fun w => aC rfl) rfl rfl (dI 5 rfl (fun w => aN rfl) rfl rfl (dI 6 rfl (fun w => aR fo_100_3 rfl) rfl rfl (dJ 7 rfl hs rfl (fun w hs => (aO rfl (aQ cH (hs.g 2 rfl) rfl))) rfl (dL 8 rfl (cF (cD rfl rfl ok_190 (c_hdrUnpack hG hs.isIn hb (hs.g 0 rfl) (hs.off (k := 0) rfl) m2.at_ rfl (by omega) (by omega))) rfl (fun v37 w HF => ?_)))))))))))))
 obtain ⟨o, k, e, hcs, rfl, he, hc, hr⟩ := HF
 replace hs := hs.frame1 (k := 0) rfl rfl hc
 refine ⟨fun h => absurd h (by decide +kernel), dI 9 rfl (fun w => aC rfl) rfl rfl (dI 10 rfl (fun w => aI rfl rfl) rfl rfl (dI 11 rfl (fun w => aI rfl rfl) rfl rfl (dI 12 rfl (fun w => aD rfl) rfl rfl (dI 13 rfl (fun w => aD rfl) rfl rfl (bS (by decide +kernel) (aF (dP (dM rfl rfl (lp (bB he rfl) rfl (aH (bH rfl (fun hc2 => ?_) (fun hc2 => ?_))))))))))))⟩
 refine dP (lp (bM (vs := []) (ps := []) rfl bz_112) rfl (dM rfl rfl (aJ (dR 1 hs k_112 rfl rfl rfl (by simp) (hdrC_len (by simp)) (by rw [hz]; exact flat_hdrC _) rfl (fun w hs => ?_)))))
 rw [hz] at hs
 replace hs := hs.drop hb7
 refine dN rfl rfl (aH (aV ⟨_, fX ⟨_, rfl, aP k_112 (hs.g 0 rfl) (hdrC_len (by simp))⟩ rfl, ?_⟩))
 have hno : k = .other ∧ header l m2.at_ = none := by
  rcases hr with ⟨r, h, _⟩ | h
  exact absurd h hc2
  exact ⟨h.1, h.2⟩
 obtain ⟨rfl, hno⟩ := hno
 exact ⟨_, _, _, .other, none, m2, rfl, hs.drop hb4, beginM_none hadv hno, hp, he, .inr ⟨by decide, rfl⟩⟩
 have hk : k = .ok := by simpa using hc2
 subst hk
 obtain ⟨r, hhd, rfl⟩ : ∃ r, header l m2.at_ = some (r, o) ∧ hcs = hdrC r := by
  rcases hr with ⟨r, _, h, h'⟩ | h
  exact ⟨r, h, h'⟩
  cases h.1
 have hhs := header_some hhd
 have hnl := cM (out := r.name) (n := r.name.length) (by omega)
 refine aW (dP (dM rfl rfl (lp (aN rfl) rfl (lp (aR fo_100_5 rfl) rfl (aJ (dQ 2 hs k_4 rfl rfl rfl rfl rfl rfl rfl (fun w hs => aH (dP (dM rfl rfl (dM rfl rfl (lp (aN rfl) rfl (lp (aR fo_100_3 rfl) rfl (lp (aO rfl (aQ cH (hs.g 2 rfl) rfl)) rfl (lp (aN rfl) rfl ?_))))))))))))))
 refine lp (aR fo_100_6 rfl) rfl (aJ (dQ 2 hs cH rfl rfl rfl rfl rfl rfl rfl (fun w hs => aH (dP (dM rfl rfl (lp (aR fo_112_1 rfl) rfl (lp (aO rfl (cT k_87 (hs.g 0 rfl) hnl (i := 0) rfl rfl)) rfl (lp (aN rfl) rfl (lp (aR fo_100_7 rfl) rfl (aJ (dQ 2 hs k_87 rfl rfl rfl rfl rfl rfl rfl (fun w hs => aH (dP (dM rfl rfl (lp (aR fo_112_4 rfl) rfl ?_)))))))))))))))
 refine lp (aO rfl (cT eS (hs.g 0 rfl) hnl (i := 3) rfl rfl)) rfl (lp (aN rfl) rfl (lp (aR fo_100_8 rfl) rfl (aJ (dQ 2 hs eS rfl rfl rfl rfl rfl rfl rfl (fun w hs => aH (dP (dM rfl rfl (dM rfl rfl (lp (aN rfl) rfl (lp (aR fo_100_3 rfl) rfl (aJ (dQ 2 hs cH rfl rfl rfl rfl rfl rfl rfl (fun w hs => aH (dP (lp (aO rfl (aP k_112 (hs.g 0 rfl) (hdrC_len hhs.1))) rfl ?_)))))))))))))))
 refine aJ (dR 1 hs k_112 rfl rfl rfl (hdrC_len hhs.1) (hdrC_len (by simp)) (flat_hdrC _) rfl (fun w hs => ?_))
 replace hs := hs.drop hb7
 refine dN rfl rfl (aH (aV ⟨_, fX ⟨_, rfl, aP k_112 (hs.g 0 rfl) (hdrC_len hhs.1)⟩ rfl, ?_⟩))
 exact ⟨_, _, _, .ok, some r, _, rfl, hs.drop hb4, beginM_some hadv hhd, PR.mk rfl, rfl, .inl ⟨r, rfl, rfl, rfl, hhs.1⟩⟩
end
end Go.Proofs.YtgpfjlfkaoffeaaGreatDoor
namespace Go.Proofs.YtgpfjlfkaoffeaaGreatDoor
open Go
def fL (V : Vw) (kind : Nat) (t : Nat) (r : fY) (cs : List Value) : Prop :=
 match kind with
 | 1 => cs = r.data.map eA ∧ r.data.length = 4
 | 8 => cs = r.data.map eA ∧ r.data.length = 16
 | 2 => cs = nmC r.host r.host.length ∧ r.host.length ≤ 254
 | 3 => cs = nmC r.host r.host.length ∧ r.host.length ≤ 254
 | 5 => cs = nmC r.host r.host.length ∧ r.host.length ≤ 254
 | 6 => cs = .int .u16 r.n1 :: nmC r.host r.host.length ∧ r.host.length ≤ 254 ∧ r.n1 < 65536
 | 9 => cs = .int .u16 r.n1 :: .int .u16 r.n2 :: .int .u16 r.n3 :: nmC r.host r.host.length ∧ r.host.length ≤ 254 ∧ r.n1 < 65536 ∧ r.n2 < 65536 ∧ r.n3 < 65536
 | 4 => cs = nmC r.host r.host.length ++ nmC r.box r.box.length ++ [.int .u32 r.n1, .int .u32 r.n2, .int .u32 r.n3, .int .u32 r.n4, .int .u32 r.n5] ∧ r.host.length ≤ 254 ∧ r.box.length ≤ 254
 | 7 => ∃ v, cs = [v] ∧ fF V v r.texts
 | 10 => ∃ v, cs = [v] ∧ eV V v r.pairs
 | 11 => ∃ v, cs = .int .u16 r.n1 :: (nmC r.host r.host.length ++ [v]) ∧ r.host.length ≤ 254 ∧ r.n1 < 65536 ∧ eV V v r.pairs
 | 12 => ∃ v, cs = .int .u16 r.n1 :: (nmC r.host r.host.length ++ [v]) ∧ r.host.length ≤ 254 ∧ r.n1 < 65536 ∧ eV V v r.pairs
 | _ => ∃ v, cs = [.int .u16 t, v] ∧ RB V v r.data
section
variable {A : Nat → Addr} {V : Vw} {w0 : World} {l : List UInt8} {mv : Value} {off : Int}
theorem c_unpackNS (hG : Gl A V) (hV : V.In w0) (hb : RB V mv l) (n : Nat) (hn : off = n) (h1 : n ≤ 1152921504606846976) (h2 : l.length ≤ 1152921504606846975) :
  eC Tryz.prog 161 #[mv, .int .i64 off] w0 fun v w' => ∃ (cs : List Value) (e : Value) (k : EK), v = .tuple #[.agg cs.toArray, e] ∧ St ⟨w0, V, V⟩ w' [] ∧ ErrV A e k ∧ cs.length = 256 ∧ Flat cs ∧
   ((∃ r, k = .ok ∧ ∀ len, body l n 2 len = some r ∧ fL V 2 0 r cs) ∨ (k = .other ∧ ∀ len, body l n 2 len = none)) := by
 subst hn
 have hs := St.start hV
 refine aT [_, _] Tryz.func161 Tryz.ntmps161 Tryz.results161 rfl rfl (dP (aJ (aX hs z_163 rfl (fun b4 w hb4 he4 hs => dN rfl rfl (aH (dP (aJ (aX hs z_86 rfl (fun b6 w hb6 he6 hs => ?_)))))))))
 rw [rep256] at hs
 refine aH (aF (dP (dM rfl rfl (dM rfl rfl (aZ ok_151 rfl rfl (c_nameUnpack (pre := []) (post := []) hG hs.isIn hb rfl (by have := hs.g 0 rfl; rw [List.nil_append, List.append_nil]; exact this) (hs.off (k := 0) rfl) n rfl h1 (by omega)) rfl (fun v12 w HF => ?_))))))
 obtain ⟨o, k, e, out, z, rfl, he, ho, hz, hc, hr⟩ := HF
 replace hs := hs.frame1 (k := 0) rfl rfl hc
 rw [List.nil_append, List.append_nil] at hs
 have hnl := cM (n := z) (Nat.le_trans ho (by decide : 254 ≤ 255))
 refine dM rfl rfl (dO rfl rfl rfl (dO rfl rfl rfl (dN rfl rfl (dN rfl rfl (aH (dP (dM rfl rfl (lp (bB he rfl) rfl (aH (bH rfl (fun hc0 => ?_) (fun hc0 => ?_)))))))))))
 refine dP (lp (bM (vs := []) (ps := []) rfl bz_163) rfl (dM rfl rfl (aJ (dR 1 hs k_163 rfl rfl rfl (by simp) (cM (by simp)) (flat_rep _ rfl) rfl (fun w hs => dN rfl rfl (aH (aV ⟨_, fX ⟨_, rfl, aP k_163 (hs.g 1 rfl) (by simp)⟩ rfl, ?_⟩)))))))
 exact ⟨_, _, k, rfl, (hs.drop hb6).drop hb4, he, by simp, flat_rep _ rfl, .inr ⟨(hr.bad hc0).1, fun len => by simp [body, (hr.bad hc0).2]⟩⟩
 have hk : k = .ok := by simpa using hc0
 subst hk
 obtain ⟨hname, rfl⟩ := hr.ok
 refine aW (dP (lp (aO rfl (aP k_86 (hs.g 0 rfl) hnl)) rfl (lp (fO [nmC out out.length] st_163 rfl rfl rfl (by simp [hnl]) (List.append_nil _)) rfl (aJ (dR 1 hs k_163 rfl rfl rfl hnl (cM (by simp)) (eU _ _) rfl (fun w hs => dN rfl rfl (aH (aV ⟨_, fX ⟨_, rfl, aP k_163 (hs.g 1 rfl) hnl⟩ rfl, ?_⟩))))))))
 exact ⟨_, _, .ok, rfl, (hs.drop hb6).drop hb4, rfl, hnl, eU _ _, .inl ⟨_, rfl, fun len => ⟨by simp only [body, hname, Option.map_some]; rfl, rfl, ho⟩⟩⟩
theorem c_unpackCNAME (hG : Gl A V) (hV : V.In w0) (hb : RB V mv l) (n : Nat) (hn : off = n) (h1 : n ≤ 1152921504606846976) (h2 : l.length ≤ 1152921504606846975) :
  eC Tryz.prog 162 #[mv, .int .i64 off] w0 fun v w' => ∃ (cs : List Value) (e : Value) (k : EK), v = .tuple #[.agg cs.toArray, e] ∧ St ⟨w0, V, V⟩ w' [] ∧ ErrV A e k ∧ cs.length = 256 ∧ Flat cs ∧
   ((∃ r, k = .ok ∧ ∀ len, body l n 3 len = some r ∧ fL V 3 0 r cs) ∨ (k = .other ∧ ∀ len, body l n 3 len = none)) := by
 subst hn
 have hs := St.start hV
 refine aT [_, _] Tryz.func162 Tryz.ntmps162 Tryz.results162 rfl rfl (dP (aJ (aX hs z_168 rfl (fun b4 w hb4 he4 hs => dN rfl rfl (aH (dP (aJ (aX hs z_86 rfl (fun b6 w hb6 he6 hs => ?_)))))))))
 rw [rep256] at hs
 refine aH (aF (dP (dM rfl rfl (dM rfl rfl (aZ ok_151 rfl rfl (c_nameUnpack (pre := []) (post := []) hG hs.isIn hb rfl (by have := hs.g 0 rfl; rw [List.nil_append, List.append_nil]; exact this) (hs.off (k := 0) rfl) n rfl h1 (by omega)) rfl (fun v12 w HF => ?_))))))
 obtain ⟨o, k, e, out, z, rfl, he, ho, hz, hc, hr⟩ := HF
 replace hs := hs.frame1 (k := 0) rfl rfl hc
 rw [List.nil_append, List.append_nil] at hs
 have hnl := cM (n := z) (Nat.le_trans ho (by decide : 254 ≤ 255))
 refine dM rfl rfl (dO rfl rfl rfl (dO rfl rfl rfl (dN rfl rfl (dN rfl rfl (aH (dP (dM rfl rfl (lp (bB he rfl) rfl (aH (bH rfl (fun hc0 => ?_) (fun hc0 => ?_)))))))))))
 refine dP (lp (bM (vs := []) (ps := []) rfl bz_168) rfl (dM rfl rfl (aJ (dR 1 hs k_168 rfl rfl rfl (by simp) (cM (by simp)) (flat_rep _ rfl) rfl (fun w hs => dN rfl rfl (aH (aV ⟨_, fX ⟨_, rfl, aP k_168 (hs.g 1 rfl) (by simp)⟩ rfl, ?_⟩)))))))
 exact ⟨_, _, k, rfl, (hs.drop hb6).drop hb4, he, by simp, flat_rep _ rfl, .inr ⟨(hr.bad hc0).1, fun len => by simp [body, (hr.bad hc0).2]⟩⟩
 have hk : k = .ok := by simpa using hc0
 subst hk
 obtain ⟨hname, rfl⟩ := hr.ok
 refine aW (dP (lp (aO rfl (aP k_86 (hs.g 0 rfl) hnl)) rfl (lp (fO [nmC out out.length] st_168 rfl rfl rfl (by simp [hnl]) (List.append_nil _)) rfl (aJ (dR 1 hs k_168 rfl rfl rfl hnl (cM (by simp)) (eU _ _) rfl (fun w hs => dN rfl rfl (aH (aV ⟨_, fX ⟨_, rfl, aP k_168 (hs.g 1 rfl) hnl⟩ rfl, ?_⟩))))))))
 exact ⟨_, _, .ok, rfl, (hs.drop hb6).drop hb4, rfl, hnl, eU _ _, .inl ⟨_, rfl, fun len => ⟨by simp only [body, hname, Option.map_some]; rfl, rfl, ho⟩⟩⟩
theorem c_unpackPTR (hG : Gl A V) (hV : V.In w0) (hb : RB V mv l) (n : Nat) (hn : off = n) (h1 : n ≤ 1152921504606846976) (h2 : l.length ≤ 1152921504606846975) :
  eC Tryz.prog 164 #[mv, .int .i64 off] w0 fun v w' => ∃ (cs : List Value) (e : Value) (k : EK), v = .tuple #[.agg cs.toArray, e] ∧ St ⟨w0, V, V⟩ w' [] ∧ ErrV A e k ∧ cs.length = 256 ∧ Flat cs ∧
   ((∃ r, k = .ok ∧ ∀ len, body l n 5 len = some r ∧ fL V 5 0 r cs) ∨ (k = .other ∧ ∀ len, body l n 5 len = none)) := by
 subst hn
 have hs := St.start hV
 refine aT [_, _] Tryz.func164 Tryz.ntmps164 Tryz.results164 rfl rfl (dP (aJ (aX hs z_178 rfl (fun b4 w hb4 he4 hs => dN rfl rfl (aH (dP (aJ (aX hs z_86 rfl (fun b6 w hb6 he6 hs => ?_)))))))))
 rw [rep256] at hs
 refine aH (aF (dP (dM rfl rfl (dM rfl rfl (aZ ok_151 rfl rfl (c_nameUnpack (pre := []) (post := []) hG hs.isIn hb rfl (by have := hs.g 0 rfl; rw [List.nil_append, List.append_nil]; exact this) (hs.off (k := 0) rfl) n rfl h1 (by omega)) rfl (fun v12 w HF => ?_))))))
 obtain ⟨o, k, e, out, z, rfl, he, ho, hz, hc, hr⟩ := HF
 replace hs := hs.frame1 (k := 0) rfl rfl hc
 rw [List.nil_append, List.append_nil] at hs
 have hnl := cM (n := z) (Nat.le_trans ho (by decide : 254 ≤ 255))
 refine dM rfl rfl (dO rfl rfl rfl (dO rfl rfl rfl (dN rfl rfl (dN rfl rfl (aH (dP (dM rfl rfl (lp (bB he rfl) rfl (aH (bH rfl (fun hc0 => ?_) (fun hc0 => ?_)))))))))))
 refine dP (lp (bM (vs := []) (ps := []) rfl bz_178) rfl (dM rfl rfl (aJ (dR 1 hs k_178 rfl rfl rfl (by simp) (cM (by simp)) (flat_rep _ rfl) rfl (fun w hs => dN rfl rfl (aH (aV ⟨_, fX ⟨_, rfl, aP k_178 (hs.g 1 rfl) (by simp)⟩ rfl, ?_⟩)))))))
 exact ⟨_, _, k, rfl, (hs.drop hb6).drop hb4, he, by simp, flat_rep _ rfl, .inr ⟨(hr.bad hc0).1, fun len => by simp [body, (hr.bad hc0).2]⟩⟩
 have hk : k = .ok := by simpa using hc0
 subst hk
 obtain ⟨hname, rfl⟩ := hr.ok
 refine aW (dP (lp (aO rfl (aP k_86 (hs.g 0 rfl) hnl)) rfl (lp (fO [nmC out out.length] st_178 rfl rfl rfl (by simp [hnl]) (List.append_nil _)) rfl (aJ (dR 1 hs k_178 rfl rfl rfl hnl (cM (by simp)) (eU _ _) rfl (fun w hs => dN rfl rfl (aH (aV ⟨_, fX ⟨_, rfl, aP k_178 (hs.g 1 rfl) hnl⟩ rfl, ?_⟩))))))))
 exact ⟨_, _, .ok, rfl, (hs.drop hb6).drop hb4, rfl, hnl, eU _ _, .inl ⟨_, rfl, fun len => ⟨by simp only [body, hname, Option.map_some]; rfl, rfl, ho⟩⟩⟩
theorem c_unpackA (hG : Gl A V) (hV : V.In w0) (hb : RB V mv l) (n : Nat) (hn : off = n) (h1 : n ≤ 1152921504606846976) (h2 : l.length ≤ 1152921504606846975) :
  eC Tryz.prog 160 #[mv, .int .i64 off] w0 fun v w' => ∃ (cs : List Value) (e : Value) (k : EK), v = .tuple #[.agg cs.toArray, e] ∧ St ⟨w0, V, V⟩ w' [] ∧ ErrV A e k ∧ cs.length = 4 ∧ Flat cs ∧
   ((∃ r, k = .ok ∧ ∀ len, body l n 1 len = some r ∧ fL V 1 0 r cs) ∨ (k = .other ∧ ∀ len, body l n 1 len = none)) := by
 subst hn
 have hs := St.start hV
 refine aT [_, _] Tryz.func160 Tryz.ntmps160 Tryz.results160 rfl rfl (dP (aJ (aX hs z_157 rfl (fun b4 w hb4 he4 hs => dN rfl rfl (aH (dP (aJ (aX hs z_155 rfl (fun b6 w hb6 he6 hs => aH (aF (dP (dM rfl rfl (dM rfl rfl (lp (po_slice_arrA ar_155 (by decide) rfl) rfl (aZ ok_193 rfl rfl (c_unpackBytes (m := 4) (c := 4) hG hs.isIn hb (by rfl) (hs.g 0 rfl) (hs.off (k := 0) rfl) n rfl h1 (by omega) (by omega)) rfl (fun v13 w HF => ?_))))))))))))))))
 obtain ⟨o, k, e, cs', rfl, he, hc, hr⟩ := HF
 replace hs := hs.frame1 (k := 0) rfl rfl hc
 refine dM rfl rfl (dO rfl rfl rfl (dO rfl rfl rfl (dN rfl rfl (dN rfl rfl (aH (dP (dM rfl rfl (lp (bB he rfl) rfl (aH (bH rfl (fun hc0 => ?_) (fun hc0 => ?_)))))))))))
 refine dP (lp (bM (vs := []) (ps := []) rfl bz_157) rfl (dM rfl rfl (aJ (dR 1 hs k_157 rfl rfl rfl (by simp) (by simp) (by simp [Flat, Value.oneCell']) rfl (fun w hs => dN rfl rfl (aH (aV ⟨_, fX ⟨_, rfl, aP k_157 (hs.g 1 rfl) (by simp)⟩ rfl, ?_⟩)))))))
 have hno : k = .other ∧ rdBytes l n 4 = none := by
  rcases hr with ⟨h, _⟩ | ⟨h, h', _⟩
  exact absurd h hc0
  exact ⟨h, h'⟩
 exact ⟨_, _, k, rfl, (hs.drop hb6).drop hb4, he, by simp, by simp [Flat, Value.oneCell'], .inr ⟨hno.1, fun len => by simp [body, hno.2]⟩⟩
 have hk : k = .ok := by simpa using hc0
 subst hk
 obtain ⟨hbytes, rfl⟩ : rdBytes l n 4 = some (seg l n 4) ∧ cs' = (seg l n 4).map eA := by
  rcases hr with ⟨_, h⟩ | ⟨h, _⟩
  exact h
  cases h
 have hsl : (seg l n 4).length = 4 := by
  unfold rdBytes at hbytes
  split at hbytes
  exact seg_len (by assumption)
  cases hbytes
 have hnl : ((seg l n 4).map eA).length = 4 := by simp [hsl]
 refine aW (dP (lp (aO rfl (aP k_155 (hs.g 0 rfl) hnl)) rfl (lp (fO [(seg l n 4).map eA] st_157 rfl rfl rfl (by simp [hsl]) (List.append_nil _)) rfl (aJ (dR 1 hs k_157 rfl rfl rfl hnl (by simp) (dH _) rfl (fun w hs => dN rfl rfl (aH (aV ⟨_, fX ⟨_, rfl, aP k_157 (hs.g 1 rfl) hnl⟩ rfl, ?_⟩))))))))
 exact ⟨_, _, .ok, rfl, (hs.drop hb6).drop hb4, rfl, hnl, dH _, .inl ⟨_, rfl, fun len => ⟨by simp only [body, hbytes, Option.map_some]; rfl, rfl, hsl⟩⟩⟩
theorem c_unpackAAAA (hG : Gl A V) (hV : V.In w0) (hb : RB V mv l) (n : Nat) (hn : off = n) (h1 : n ≤ 1152921504606846976) (h2 : l.length ≤ 1152921504606846975) :
  eC Tryz.prog 167 #[mv, .int .i64 off] w0 fun v w' => ∃ (cs : List Value) (e : Value) (k : EK), v = .tuple #[.agg cs.toArray, e] ∧ St ⟨w0, V, V⟩ w' [] ∧ ErrV A e k ∧ cs.length = 16 ∧ Flat cs ∧
   ((∃ r, k = .ok ∧ ∀ len, body l n 8 len = some r ∧ fL V 8 0 r cs) ∨ (k = .other ∧ ∀ len, body l n 8 len = none)) := by
 subst hn
 have hs := St.start hV
 refine aT [_, _] Tryz.func167 Tryz.ntmps167 Tryz.results167 rfl rfl (dP (aJ (aX hs z_194 rfl (fun b4 w hb4 he4 hs => dN rfl rfl (aH (dP (aJ (aX hs z_192 rfl (fun b6 w hb6 he6 hs => aH (aF (dP (dM rfl rfl (dM rfl rfl (lp (po_slice_arrA ar_192 (by decide) rfl) rfl (aZ ok_193 rfl rfl (c_unpackBytes (m := 16) (c := 16) hG hs.isIn hb (by rfl) (hs.g 0 rfl) (hs.off (k := 0) rfl) n rfl h1 (by omega) (by omega)) rfl (fun v13 w HF => ?_))))))))))))))))
 obtain ⟨o, k, e, cs', rfl, he, hc, hr⟩ := HF
 replace hs := hs.frame1 (k := 0) rfl rfl hc
 refine dM rfl rfl (dO rfl rfl rfl (dO rfl rfl rfl (dN rfl rfl (dN rfl rfl (aH (dP (dM rfl rfl (lp (bB he rfl) rfl (aH (bH rfl (fun hc0 => ?_) (fun hc0 => ?_)))))))))))
 refine dP (lp (bM (vs := []) (ps := []) rfl bz_194) rfl (dM rfl rfl (aJ (dR 1 hs k_194 rfl rfl rfl (by simp) (by simp) (by simp [Flat, Value.oneCell']) rfl (fun w hs => dN rfl rfl (aH (aV ⟨_, fX ⟨_, rfl, aP k_194 (hs.g 1 rfl) (by simp)⟩ rfl, ?_⟩)))))))
 have hno : k = .other ∧ rdBytes l n 16 = none := by
  rcases hr with ⟨h, _⟩ | ⟨h, h', _⟩
  exact absurd h hc0
  exact ⟨h, h'⟩
 exact ⟨_, _, k, rfl, (hs.drop hb6).drop hb4, he, by simp, by simp [Flat, Value.oneCell'], .inr ⟨hno.1, fun len => by simp [body, hno.2]⟩⟩
 have hk : k = .ok := by simpa using hc0
 subst hk
 obtain ⟨hbytes, rfl⟩ : rdBytes l n 16 = some (seg l n 16) ∧ cs' = (seg l n 16).map eA := by
  rcases hr with ⟨_, h⟩ | ⟨h, _⟩
  exact h
  cases h
 have hsl : (seg l n 16).length = 16 := by
  unfold rdBytes at hbytes
  split at hbytes
  exact seg_len (by assumption)
  cases hbytes
 have hnl : ((seg l n 16).map eA).length = 16 := by simp [hsl]
 refine aW (dP (lp (aO rfl (aP k_192 (hs.g 0 rfl) hnl)) rfl (lp (fO [(seg l n 16).map eA] st_194 rfl rfl rfl (by simp [hsl]) (List.append_nil _)) rfl (aJ (dR 1 hs k_194 rfl rfl rfl hnl (by simp) (dH _) rfl (fun w hs => dN rfl rfl (aH (aV ⟨_, fX ⟨_, rfl, aP k_194 (hs.g 1 rfl) hnl⟩ rfl, ?_⟩))))))))
 exact ⟨_, _, .ok, rfl, (hs.drop hb6).drop hb4, rfl, hnl, dH _, .inl ⟨_, rfl, fun len => ⟨by simp only [body, hbytes, Option.map_some]; rfl, rfl, hsl⟩⟩⟩
end
end Go.Proofs.YtgpfjlfkaoffeaaGreatDoor

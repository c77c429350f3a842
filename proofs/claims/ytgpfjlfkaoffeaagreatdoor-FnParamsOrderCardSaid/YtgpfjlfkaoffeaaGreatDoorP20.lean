/- What holds of a machine goes on holding. Plain laws of the model: bytes behind a message that is read change nothing. Plain laws of the model: all records of a section are those that are read one by one. Packing: numbers, bytes, texts. -/
import Derived.Test.YtgpfjlfkaoffeaaGreatDoorP19
import Derived.Test.YtgpfjlfkaoffeaaGreatDoorP10
import Derived.Test.YtgpfjlfkaoffeaaGreatDoorP12
set_option linter.all false
namespace Go.Proofs.YtgpfjlfkaoffeaaGreatDoor
open Go
section
variable {l : List UInt8} {m m' : PM} {s : Nat} {k : EK}
theorem wf_init (l : List UInt8) : WF l {} := ⟨fun _ => rfl, by decide, fun h => (by cases h), fun h => absurd h (by decide), fun h => (by cases h), fun h => absurd h (by decide), Nat.zero_le _, by decide, by decide⟩
theorem wf_start (h : 12 ≤ l.length) : WF l { sec := 1, at_ := 12 } :=
  ⟨fun h => (by cases h), by decide, fun h => (by cases h), fun _ _ => Nat.zero_le _, fun h => (by cases h), fun _ => h, by show 12 ≤ _; omega, by decide, by decide⟩
theorem wf_advance (hwf : WF l m) (h1 : 1 ≤ s) (h2 : s ≤ 4) (h : advance l m s = (k, m')) : WF l m' := by
  unfold advance at h
  split at h
  · cases h; exact hwf
  · split at h
    · cases h; exact hwf
    · have hs : m.sec = s := by omega
      have hlong := hwf.long (by omega)
      have hidx := hwf.idx (by omega) (by omega)
      split at h
      · cases h
        exact ⟨fun h => absurd h (Nat.succ_ne_zero _), by show m.sec + 1 ≤ 5; omega, fun _ => ⟨rfl, rfl⟩, fun _ _ => Nat.zero_le _, fun h => (by cases h), fun _ => hlong, hwf.at_le, hwf.hl, hwf.ht⟩
      · cases h
        exact ⟨fun h => absurd h (by show m.sec ≠ 0; omega), hwf.secs, fun h => absurd h (by show m.sec ≠ 5; omega), hwf.idx, fun h => (by cases h), fun _ => hlong, hwf.at_le, hwf.hl, hwf.ht⟩
theorem wf_m1 (hwf : WF l m) : WF l (m1Of m) := by
  unfold m1Of
  split
  · rename_i hv
    have h2 := hwf.idxV hv
    exact ⟨fun h => (by have h3 := hwf.before h; rw [h3] at hv; exact absurd hv (by decide)), hwf.secs, hwf.behind, hwf.idx, fun h => ⟨h2.1, h2.2.1, h2.2.1⟩, hwf.long, by show m.headAt ≤ _; omega, hwf.hl, hwf.ht⟩
  · exact hwf
theorem wf_next (hwf : WF l m) (h1 : 1 ≤ m.sec) (h2 : m.sec ≤ 4) (hi : m.index < count l m.sec) {a : Nat} (ha : a ≤ l.length + 65535) : WF l { m with valid := false, at_ := a, index := m.index + 1 } :=
  ⟨fun h => absurd h (by show m.sec ≠ 0; omega), hwf.secs, fun h => absurd h (by show m.sec ≠ 5; omega), fun _ _ => hi, fun h => (by cases h), hwf.long, ha, hwf.hl, hwf.ht⟩
theorem advance_lt (hwf : WF l m) (h1 : 1 ≤ s) (h2 : s ≤ 4) (h : advance l m s = (.ok, m')) : m'.sec = s ∧ m'.index < count l s ∧ m'.valid = false ∧ m'.index = m.index ∧ m'.at_ = m.at_ := by
  obtain ⟨hs, rfl, hne⟩ := advance_ok h
  have := hwf.idx (by omega) (by omega)
  rw [hs] at this
  exact ⟨hs, by show m.index < _; omega, rfl, rfl, rfl⟩
theorem wf_next' (hwf : WF l m) (h1 : 1 ≤ s) (h2 : s ≤ 4) (h : advance l m s = (.ok, m')) {a : Nat} (ha : a ≤ l.length + 65535) : WF l { m' with at_ := a, index := m'.index + 1 } := by
  obtain ⟨e1, e2, e3, _, _⟩ := advance_lt hwf h1 h2 h
  have hw := wf_advance hwf h1 h2 h
  have := wf_next hw (by omega) (by omega) (by rw [e1]; exact e2) ha
  rwa [← e3] at this
theorem ask_some {i e : Nat} {a : PAsk} (h : ask l i = some (a, e)) : e ≤ l.length := by
  simp only [ask, Option.bind_eq_some_iff, Option.map_eq_some_iff] at h
  obtain ⟨x, h1, t, h2, c, h3, h4⟩ := h
  cases h4
  have := rd16_some h3
  omega
theorem skipAsk_some {i e : Nat} (h : skipAsk l i = some e) : e ≤ l.length := by
  simp only [skipAsk, Option.bind_eq_some_iff] at h
  obtain ⟨x, h1, h2⟩ := h
  split at h2
  · cases h2; assumption
  · cases h2
theorem skipRec_some {i e : Nat} (h : skipRec l i = some e) : e ≤ l.length := by
  simp only [skipRec, Option.bind_eq_some_iff] at h
  obtain ⟨x, h1, h2⟩ := h
  split at h2
  · split at h2
    · cases h2; assumption
    · cases h2
  · cases h2
theorem wf_askM (hwf : WF l m) : WF l (askM l m).2.2 := by
  unfold askM
  obtain ⟨k, m1, hadv⟩ : ∃ k m1, advance l m 1 = (k, m1) := ⟨_, _, rfl⟩
  rw [hadv]
  have hw := wf_advance hwf (by decide) (by decide) hadv
  cases k with
  | ok =>
    simp only
    cases hh : ask l m1.at_ with
    | none => exact hw
    | some p =>
      obtain ⟨a, e⟩ := p
      have := ask_some hh
      exact wf_next' hwf (by decide) (by decide) hadv (by omega)
  | _ => exact hw
theorem wf_passAskM (hwf : WF l m) : WF l (passAskM l m).2 := by
  unfold passAskM
  obtain ⟨k, m1, hadv⟩ : ∃ k m1, advance l m 1 = (k, m1) := ⟨_, _, rfl⟩
  rw [hadv]
  have hw := wf_advance hwf (by decide) (by decide) hadv
  cases k with
  | ok =>
    simp only
    cases hh : skipAsk l m1.at_ with
    | none => exact hw
    | some e =>
      have := skipAsk_some hh
      exact wf_next' hwf (by decide) (by decide) hadv (by omega)
  | _ => exact hw
theorem wf_beginM (hwf : WF l m) (h1 : 1 ≤ s) (h2 : s ≤ 4) : WF l (beginM l m s).2.2 := by
  obtain ⟨k, m1, hadv⟩ : ∃ k m1, advance l (m1Of m) s = (k, m1) := ⟨_, _, rfl⟩
  have hw := wf_advance (wf_m1 hwf) h1 h2 hadv
  by_cases hk : k = .ok
  · subst hk
    cases hh : header l m1.at_ with
    | none => rw [beginM_none hadv hh]; exact hw
    | some p =>
      obtain ⟨r, o⟩ := p
      rw [beginM_some hadv hh]
      have hhs := header_some hh
      obtain ⟨e1, e2, e3, e4, e5⟩ := advance_lt (wf_m1 hwf) h1 h2 hadv
      have hat : m1.at_ ≤ l.length := by
        simp only [header, Option.bind_eq_some_iff] at hh
        obtain ⟨x, hn, _⟩ := hh
        unfold name at hn
        rw [nameS] at hn
        split at hn
        · omega
        · cases hn
      exact ⟨fun h => absurd h (by show m1.sec ≠ 0; omega), hw.secs, fun h => absurd h (by show m1.sec ≠ 5; omega), hw.idx, fun _ => ⟨by rw [← e1] at e2; exact e2, hat, hhs.2.1⟩, hw.long, by show o ≤ _; omega, hhs.2.2.2, hhs.2.2.1⟩
  · rw [beginM_bad hadv hk]; exact hw
theorem wf_clear (hwf : WF l m) : WF l { m with valid := false } :=
  ⟨fun h => (by have := hwf.before h; rw [this]), hwf.secs, fun h => ⟨(hwf.behind h).1, rfl⟩, hwf.idx, fun h => (by cases h), hwf.long, hwf.at_le, hwf.hl, hwf.ht⟩
theorem valid_sec (hwf : WF l m) (hv : m.valid = true) : 1 ≤ m.sec ∧ m.sec ≤ 4 := by
  have h5 := hwf.secs
  refine ⟨?_, ?_⟩
  · rcases Nat.eq_zero_or_pos m.sec with h | h
    · have := hwf.before h; rw [this] at hv; cases hv
    · exact h
  · rcases Nat.lt_or_ge 4 m.sec with h | h
    · have := (hwf.behind (by omega)).2; rw [hv] at this; cases this
    · exact h
theorem wf_taken (hwf : WF l m) (hv : m.valid = true) : WF l { m with at_ := m.at_ + m.hlen, valid := false, index := m.index + 1 } := by
  obtain ⟨h1, h2⟩ := valid_sec hwf hv
  have h3 := hwf.idxV hv
  have h4 := hwf.hl
  have := wf_next hwf h1 h2 h3.1 (a := m.at_ + m.hlen) (by omega)
  exact this
theorem wf_recordM (hwf : WF l m) (h1 : 1 ≤ s) (h2 : s ≤ 4) : WF l (recordM l m s).2.2 := by
  have hw := wf_beginM hwf h1 h2
  obtain ⟨k, ro, m1, hb⟩ : ∃ k ro m1, beginM l m s = (k, ro, m1) := ⟨_, _, _, rfl⟩
  rw [hb] at hw
  simp only at hw
  by_cases hk : k = .ok
  · subst hk
    obtain ⟨r, o, m2, hadv, hhd, rfl, hm'⟩ := beginM_ok hb
    cases hbd : body l m1.at_ (kindOfType r.type) r.length with
    | none => rw [recordM_none hb hbd]; exact wf_clear hw
    | some x =>
      rw [recordM_some hb hbd]
      have hv : m1.valid = true := by rw [hm']
      have hl : m1.hlen = r.length := by rw [hm']
      have := wf_taken hw hv
      have e : m1.at_ + r.length = m1.at_ + m1.hlen := by rw [hl]
      simp only [e]
      exact this
  · rw [recordM_bad hb hk]; exact hw
theorem wf_passM (hwf : WF l m) (h1 : 1 ≤ s) (h2 : s ≤ 4) : WF l (passM l m s).2 := by
  unfold passM
  split
  · rename_i hc
    split
    · exact wf_taken hwf hc.1
    · exact hwf
  · obtain ⟨k, m1, hadv⟩ : ∃ k m1, advance l m s = (k, m1) := ⟨_, _, rfl⟩
    rw [hadv]
    have hw := wf_advance hwf h1 h2 hadv
    cases k with
    | ok =>
      simp only
      cases hh : skipRec l m1.at_ with
      | none => exact hw
      | some e =>
        have := skipRec_some hh
        exact wf_next' hwf h1 h2 hadv (by omega)
    | _ => exact hw
theorem wf_bodyM (hwf : WF l m) (kind : Nat) : WF l (bodyM l m kind).2.2 := by
  unfold bodyM
  split
  · exact hwf
  · rename_i hc
    have hv : m.valid = true := by
      cases h : m.valid with
      | true => rfl
      | false => exact absurd (.inl h) hc
    cases body l m.at_ kind m.hlen with
    | none => exact hwf
    | some r => exact wf_taken hwf hv
end
end Go.Proofs.YtgpfjlfkaoffeaaGreatDoor
namespace Go.Proofs.YtgpfjlfkaoffeaaGreatDoor
open Go
def unpackN (b : List UInt8) : Option PMsg :=
  if b.length < 12 then none else
  match allAsks b fuel { sec := 1, at_ := 12 } [] with
  | (.ok, al, m1) => match allRecs b 2 fuel m1 [] with
    | (.ok, r1, m2) => match allRecs b 3 fuel m2 [] with
      | (.ok, r2, m3) => match allRecs b 4 fuel m3 [] with
        | (.ok, r3, _) => some { id := w16 b 0, bits := w16 b 2, asks := al, answers := r1, authorities := r2, additionals := r3 }
        | _ => none
      | _ => none
    | _ => none
  | _ => none
theorem num_zero {k : EK} : k.num = 0 ↔ k = .ok := by cases k <;> simp [EK.num]
theorem stepM_1 (b : List UInt8) (m k : PM) : stepM b m k 1 = ((startM b).1, (startM b).2, k) := by simp [stepM]
theorem stepM_3 (b : List UInt8) (m k : PM) : stepM b m k 3 = ((questionM b m 3).1, (questionM b m 3).2, k) := by simp [stepM]
theorem stepM_8 (b : List UInt8) (m k : PM) : stepM b m k 8 = ((partM b m 2 2).1, (partM b m 2 2).2, k) := by simp [stepM]
theorem stepM_13 (b : List UInt8) (m k : PM) : stepM b m k 13 = ((partM b m 3 2).1, (partM b m 3 2).2, k) := by simp [stepM]
theorem stepM_18 (b : List UInt8) (m k : PM) : stepM b m k 18 = ((partM b m 4 2).1, (partM b m 4 2).2, k) := by simp [stepM]
theorem parse5 (b : List UInt8) : parseM b [1, 3, 8, 13, 18] =
    [(startM b).1, (questionM b (startM b).2 3).1, (partM b (questionM b (startM b).2 3).2 2 2).1, (partM b (partM b (questionM b (startM b).2 3).2 2 2).2 3 2).1, (partM b (partM b (partM b (questionM b (startM b).2 3).2 2 2).2 3 2).2 4 2).1] := by
  unfold parseM
  simp only [runM, stepM_1, stepM_3, stepM_8, stepM_13, stepM_18]
theorem questionM_s3 (b : List UInt8) (m : PM) : questionM b m 3 = ({ fault := (allAsks b fuel m []).1.num, asks := if (allAsks b fuel m []).1 = .ok then (allAsks b fuel m []).2.1 else [] }, (allAsks b fuel m []).2.2) := by
  unfold questionM; rw [if_neg (by decide), if_pos rfl]
theorem partM_s2 (b : List UInt8) (m : PM) (s : Nat) : partM b m s 2 = ({ fault := (allRecs b s fuel m []).1.num, recs := if (allRecs b s fuel m []).1 = .ok then (allRecs b s fuel m []).2.1 else [] }, (allRecs b s fuel m []).2.2) := by
  unfold partM; rw [if_neg (by decide), if_neg (by decide), if_pos rfl]
theorem unpackM_eq (b : List UInt8) : unpackM b = unpackN b := by
  unfold unpackM unpackN
  rw [parse5]
  by_cases hl : b.length < 12
  · rw [if_pos hl]
    simp [startM, hl]
  · rw [if_neg hl]
    have hst : startM b = ({ id := w16 b 0, bits := w16 b 2 }, { sec := 1, at_ := 12 }) := by unfold startM; rw [if_neg hl]
    simp only [hst, questionM_s3, partM_s2, num_zero, true_and]
    generalize allAsks b fuel { sec := 1, at_ := 12 } [] = q1
    obtain ⟨k1, al, m1⟩ := q1
    cases k1 <;> simp only [reduceCtorEq, false_and, if_false, if_true, true_and]
    generalize allRecs b 2 fuel m1 [] = q2
    obtain ⟨k2, r1, m2⟩ := q2
    cases k2 <;> simp only [reduceCtorEq, false_and, if_false, if_true, true_and]
    generalize allRecs b 3 fuel m2 [] = q3
    obtain ⟨k3, r2, m3⟩ := q3
    cases k3 <;> simp only [reduceCtorEq, false_and, if_false, if_true, true_and]
    generalize allRecs b 4 fuel m3 [] = q4
    obtain ⟨k4, r3, m4⟩ := q4
    cases k4 <;> simp only [reduceCtorEq, if_false, if_true]
section
variable {b : List UInt8} (c : List UInt8)
variable (h12 : 12 ≤ b.length)
include h12
end
end Go.Proofs.YtgpfjlfkaoffeaaGreatDoor
namespace Go.Proofs.YtgpfjlfkaoffeaaGreatDoor
open Go
def endM (b : List UInt8) : PM → PM → List Int → PM × PM
  | m, k, [] => (m, k)
  | m, k, s :: r => endM b (stepM b m k s).2.1 (stepM b m k s).2.2 r
theorem runM_len (b : List UInt8) : ∀ (xs : List Int) (m k : PM), (runM b m k xs).length = xs.length
  | [], _, _ => rfl
  | s :: r, m, k => by simp only [runM, List.length_cons, runM_len b r]
theorem runM_app (b : List UInt8) (ys : List Int) : ∀ (xs : List Int) (m k : PM), runM b m k (xs ++ ys) = runM b m k xs ++ runM b (endM b m k xs).1 (endM b m k xs).2 ys
  | [], _, _ => rfl
  | s :: r, m, k => by simp only [List.cons_append, runM, endM, runM_app b ys r]
theorem endM_app (b : List UInt8) (ys : List Int) : ∀ (xs : List Int) (m k : PM), endM b m k (xs ++ ys) = endM b (endM b m k xs).1 (endM b m k xs).2 ys
  | [], _, _ => rfl
  | s :: r, m, k => by simp only [List.cons_append, endM, endM_app b ys r]
end Go.Proofs.YtgpfjlfkaoffeaaGreatDoor
namespace Go.Proofs.YtgpfjlfkaoffeaaGreatDoor
open Go
section
variable {A : Nat → Addr} {V V0 : Vw} {w w00 : World} {L : List (Nat × Obj)} {msg : Value} {m : Nat} {out : List UInt8}
theorem p_packUint16 (hs : Sl 5 1 ⟨w00, V0, V⟩ w L msg m (out.map byteVal)) (hm : m ≤ 1099511627776) (x : Nat) (hx : x < 65536) :
  CallsV Tryz.prog 143 #[msg, .int .u16 x] w fun v w' => Sl 5 1 ⟨w00, V0, V⟩ w' L v (m + 2) ((out ++ be2 x).map byteVal) := by
 refine aT [_, _] Tryz.func143 Tryz.ntmps143 Tryz.results143 rfl rfl (dP (dN rfl rfl (aH (dP (dM rfl rfl (dM rfl rfl (lp (po_shr (c := (x / 256 : Nat)) rfl rfl (by decide) (u16sh (k := 8) (n := x))) rfl (lp (bY Tryz.underlying22 Tryz.underlying5 rfl (u16hi hx)) rfl (dM rfl rfl (lp (bY Tryz.underlying22 Tryz.underlying5 rfl u8lo) rfl (l_appB (be2 x) el_23 hs (fun _ => rfl) rfl rfl rfl (by decide) (by decide) (by omega) (by omega) rfl rfl (fun b11 v12 w hs => ?_))))))))))))
 skip
 refine dN rfl rfl (aH (aV ⟨_, res1 rfl, ?_⟩))
 exact hs
theorem p_packType (hs : Sl 5 1 ⟨w00, V0, V⟩ w L msg m (out.map byteVal)) (hm : m ≤ 1099511627776) (x : Nat) (hx : x < 65536) :
  CallsV Tryz.prog 145 #[msg, .int .u16 x] w fun v w' => Sl 5 1 ⟨w00, V0, V⟩ w' L v (m + 2) ((out ++ be2 x).map byteVal) := by
 refine aT [_, _] Tryz.func145 Tryz.ntmps145 Tryz.results145 rfl rfl (dP (dN rfl rfl (aH (dP (dM rfl rfl (dM rfl rfl (aZ ok_143 rfl rfl (p_packUint16 hs hm x hx) rfl (fun v7 w HF => ?_))))))))
 obtain _ := HF
 replace hs := HF
 refine dN rfl rfl (aH (aV ⟨_, res1 rfl, ?_⟩))
 exact hs
theorem p_packClass (hs : Sl 5 1 ⟨w00, V0, V⟩ w L msg m (out.map byteVal)) (hm : m ≤ 1099511627776) (x : Nat) (hx : x < 65536) :
  CallsV Tryz.prog 146 #[msg, .int .u16 x] w fun v w' => Sl 5 1 ⟨w00, V0, V⟩ w' L v (m + 2) ((out ++ be2 x).map byteVal) := by
 refine aT [_, _] Tryz.func146 Tryz.ntmps146 Tryz.results146 rfl rfl (dP (dN rfl rfl (aH (dP (dM rfl rfl (dM rfl rfl (aZ ok_143 rfl rfl (p_packUint16 hs hm x hx) rfl (fun v7 w HF => ?_))))))))
 obtain _ := HF
 replace hs := HF
 refine dN rfl rfl (aH (aV ⟨_, res1 rfl, ?_⟩))
 exact hs
theorem p_packUint32 (hs : Sl 5 1 ⟨w00, V0, V⟩ w L msg m (out.map byteVal)) (hm : m ≤ 1099511627776) (x : Nat) :
  CallsV Tryz.prog 187 #[msg, .int .u32 x] w fun v w' => Sl 5 1 ⟨w00, V0, V⟩ w' L v (m + 4) ((out ++ be4 x).map byteVal) := by
 refine aT [_, _] Tryz.func187 Tryz.ntmps187 Tryz.results187 rfl rfl (dP (dN rfl rfl (aH (dP (dM rfl rfl (dM rfl rfl (lp (po_shr (c := (x / 16777216 : Nat)) rfl rfl (by decide) (u32sh (k := 24) (n := x))) rfl (lp (bY Tryz.underlying27 Tryz.underlying5 rfl u8lo) rfl (dM rfl rfl (lp (po_shr (c := (x / 65536 : Nat)) rfl rfl (by decide) (u32sh (k := 16) (n := x))) rfl (lp (bY Tryz.underlying27 Tryz.underlying5 rfl u8lo) rfl (dM rfl rfl (lp (po_shr (c := (x / 256 : Nat)) rfl rfl (by decide) (u32sh (k := 8) (n := x))) rfl ?_)))))))))))))
 refine lp (bY Tryz.underlying27 Tryz.underlying5 rfl u8lo) rfl (dM rfl rfl (lp (bY Tryz.underlying27 Tryz.underlying5 rfl u8lo) rfl (l_appB (be4 x) el_23 hs (fun _ => rfl) rfl rfl rfl (by decide) (by decide) (by omega) (by omega) rfl rfl (fun b11 v12 w hs => ?_))))
 skip
 refine dN rfl rfl (aH (aV ⟨_, res1 rfl, ?_⟩))
 exact hs
theorem p_packBytes {fv : Value} {l : List UInt8} (hs : Sl 5 1 ⟨w00, V0, V⟩ w L msg m (out.map byteVal)) (hm : m ≤ 1099511627776) (hf : Src Tryz.prog w 1 fv l.length (l.map byteVal)) (hl : l.length ≤ 1099511627776) :
  CallsV Tryz.prog 226 #[msg, fv] w fun v w' => Sl 5 1 ⟨w00, V0, V⟩ w' L v (m + l.length) ((out ++ l).map byteVal) := by
 refine aT [_, _] Tryz.func226 Tryz.ntmps226 Tryz.results226 rfl rfl (dP (dN rfl rfl (aH (dP (dM rfl rfl (dM rfl rfl (aJ (o_append (k := l.length) (news := l.map byteVal) el_23 (.inr ⟨_, Tryz.underlying23⟩) hs rfl rfl hf (dH _) (by omega) (by omega) rfl (fun v7 w hs => dN rfl rfl (aH (aV ⟨_, res1 rfl, ?_⟩)))))))))))
 rw [List.map_append]
 exact hs
end
end Go.Proofs.YtgpfjlfkaoffeaaGreatDoor

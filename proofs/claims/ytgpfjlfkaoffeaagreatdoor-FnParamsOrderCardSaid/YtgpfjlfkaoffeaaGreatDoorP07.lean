/- The plain model: what bytes read as, and what a machine that reads them does. The proof layer of this claim, eighth part: parts of bytes, names in memory, stores at any place. -/
import Derived.Test.YtgpfjlfkaoffeaaGreatDoorP06
set_option linter.all false
namespace Go.Proofs.YtgpfjlfkaoffeaaGreatDoor
open Go
def w16 (b : List UInt8) (i : Nat) : Nat := byteAt b i * 256 + byteAt b (i + 1)
def w32 (b : List UInt8) (i : Nat) : Nat := ((byteAt b i * 256 + byteAt b (i + 1)) * 256 + byteAt b (i + 2)) * 256 + byteAt b (i + 3)
theorem w16_lt (b : List UInt8) (i : Nat) : w16 b i < 65536 := by
  have h1 := cU b i; have h2 := cU b (i + 1); unfold w16; omega
theorem w32_lt (b : List UInt8) (i : Nat) : w32 b i < 4294967296 := by
  have h1 := cU b i; have h2 := cU b (i + 1); have h3 := cU b (i + 2); have h4 := cU b (i + 3); unfold w32; omega
def seg (b : List UInt8) (i n : Nat) : List UInt8 := (b.drop i).take n
theorem seg_len {b : List UInt8} {i n : Nat} (h : i + n ≤ b.length) : (seg b i n).length = n := by unfold seg; simp; omega
def rd16 (b : List UInt8) (i : Nat) : Option Nat := if i + 2 ≤ b.length then some (w16 b i) else none
def rd32 (b : List UInt8) (i : Nat) : Option Nat := if i + 4 ≤ b.length then some (w32 b i) else none
def rdBytes (b : List UInt8) (i n : Nat) : Option (List UInt8) := if i + n ≤ b.length then some (seg b i n) else none
def orDot : List UInt8 → List UInt8
  | [] => [46]
  | x :: r => x :: r
theorem orDot_len (l : List UInt8) : 0 < (orDot l).length ∧ l.length ≤ (orDot l).length := by cases l <;> simp [orDot]
def nameS (b : List UInt8) (i : Nat) (out : List UInt8) (jumps e : Nat) : Option (List UInt8 × Nat) :=
  if h : i < b.length then
    if byteAt b i = 0 then
      if (orDot out).length > 254 then none else some (orDot out, if jumps = 0 then i + 1 else e)
    else if hc : byteAt b i < 64 then
      if hl : i + 1 + byteAt b i ≤ b.length then
        if (seg b (i + 1) (byteAt b i)).contains 46 then none
        else nameS b (i + 1 + byteAt b i) (out ++ seg b (i + 1) (byteAt b i) ++ [46]) jumps e
      else none
    else if 192 ≤ byteAt b i then
      if i + 1 < b.length then
        if hj : jumps < 10 then nameS b ((byteAt b i - 192) * 256 + byteAt b (i + 1)) out (jumps + 1) (if jumps = 0 then i + 2 else e)
        else none
      else none
    else none
  else none
termination_by (11 - jumps) * (b.length + 2) + (b.length + 1 - i)
decreasing_by
  · omega
  · have : (11 - jumps) = (11 - (jumps + 1)) + 1 := by omega
    rw [this, Nat.add_mul]
    omega
def name (b : List UInt8) (i : Nat) : Option (List UInt8 × Nat) := nameS b i [] 0 0
theorem nameS_long (b : List UInt8) (i : Nat) (out : List UInt8) (jumps e : Nat) (h : 254 < out.length) : nameS b i out jumps e = none := by
  fun_induction nameS b i out jumps e with
  | case1 i out jumps e hi h0 h1 => rfl
  | case2 i out jumps e hi h0 h1 =>
    have := orDot_len out
    omega
  | case4 i out jumps e hi h0 hc hl hd ih => exact ih (by simp; omega)
  | case6 i out jumps e hi h0 hc hc2 hl hj ih => exact ih h
  | _ => rfl
theorem nameS_some {b : List UInt8} {i : Nat} {out : List UInt8} {jumps e : Nat} {o : List UInt8} {e' : Nat} (h : nameS b i out jumps e = some (o, e')) (he : 0 < jumps → e ≤ b.length) :
    0 < o.length ∧ o.length ≤ 254 ∧ e' ≤ b.length := by
  fun_induction nameS b i out jumps e with
  | case1 i out jumps e hi h0 h1 => cases h
  | case2 i out jumps e hi h0 h1 =>
    simp only [Option.some.injEq, Prod.mk.injEq] at h
    obtain ⟨rfl, rfl⟩ := h
    refine ⟨(orDot_len out).1, by omega, ?_⟩
    split
    · omega
    · exact he (by omega)
  | case4 i out jumps e hi h0 hc hl hd ih => exact ih h he
  | case6 i out jumps e hi h0 hc hc2 hl hj ih => exact ih h (fun _ => by split <;> first | omega | exact he (by omega))
  | _ => cases h
theorem name_some {b : List UInt8} {i : Nat} {o : List UInt8} {e : Nat} (h : name b i = some (o, e)) : 0 < o.length ∧ o.length ≤ 254 ∧ e ≤ b.length := nameS_some h (by omega)
def pass (b : List UInt8) (i : Nat) : Option Nat :=
  if h : i < b.length then
    if byteAt b i = 0 then some (i + 1)
    else if byteAt b i < 64 then
      if i + 1 + byteAt b i ≤ b.length then pass b (i + 1 + byteAt b i) else none
    else if 192 ≤ byteAt b i then some (i + 2)
    else none
  else none
termination_by b.length - i
decreasing_by omega
theorem pass_some {b : List UInt8} {i e : Nat} (h : pass b i = some e) : e ≤ b.length + 1 := by
  fun_induction pass b i with
  | case1 i hi h0 => simp at h; omega
  | case2 i hi h0 hc hl ih => exact ih h
  | case4 i hi h0 hc hc2 => simp at h; omega
  | _ => cases h
structure PPair where
  key : Nat
  data : List UInt8
structure PRec where
  name : List UInt8 := []
  type : Nat := 0
  cls : Nat := 0
  ttl : Nat := 0
  length : Nat := 0
  kind : Nat := 0
  data : List UInt8 := []
  host : List UInt8 := []
  box : List UInt8 := []
  n1 : Nat := 0
  n2 : Nat := 0
  n3 : Nat := 0
  n4 : Nat := 0
  n5 : Nat := 0
  texts : List (List UInt8) := []
  pairs : List PPair := []
structure PAsk where
  name : List UInt8
  type : Nat
  cls : Nat
structure PSeen where
  fault : Nat := 0
  id : Nat := 0
  bits : Nat := 0
  asks : List PAsk := []
  recs : List PRec := []
structure PMsg where
  id : Nat := 0
  bits : Nat := 0
  asks : List PAsk := []
  answers : List PRec := []
  authorities : List PRec := []
  additionals : List PRec := []
def textsS (b : List UInt8) (i e : Nat) (acc : List (List UInt8)) : Option (List (List UInt8)) :=
  if _h : i < e then
    if i < b.length ∧ i + 1 + byteAt b i ≤ b.length ∧ i + 1 + byteAt b i ≤ e then textsS b (i + 1 + byteAt b i) e (acc ++ [seg b (i + 1) (byteAt b i)])
    else none
  else some acc
termination_by e - i
decreasing_by omega
def optsS (b : List UInt8) (i e : Nat) (acc : List PPair) : Option (List PPair) :=
  if _h : i < e then
    if i + 4 ≤ b.length ∧ i + 4 + w16 b (i + 2) ≤ b.length then optsS b (i + 4 + w16 b (i + 2)) e (acc ++ [⟨w16 b i, seg b (i + 4) (w16 b (i + 2))⟩])
    else none
  else some acc
termination_by e - i
decreasing_by omega
def parsS (b : List UInt8) (i e : Nat) (acc : List PPair) : Option (List PPair) :=
  if _h : i < e then
    if i + 4 ≤ b.length ∧ i + 4 + w16 b (i + 2) ≤ b.length ∧ ¬ (acc ≠ [] ∧ w16 b i = 0) then parsS b (i + 4 + w16 b (i + 2)) e (acc ++ [⟨w16 b i, seg b (i + 4) (w16 b (i + 2))⟩])
    else none
  else if i = e then some acc else none
termination_by e - i
decreasing_by omega
theorem parsS_over {b : List UInt8} {i e : Nat} {acc : List PPair} (h : e < i) : parsS b i e acc = none := by
  rw [parsS, dif_neg (by omega), if_neg (by omega)]
def kindOfType (t : Nat) : Nat :=
  if t = 1 then 1 else if t = 2 then 2 else if t = 5 then 3 else if t = 6 then 4 else if t = 12 then 5 else if t = 15 then 6 else if t = 16 then 7 else if t = 28 then 8
  else if t = 33 then 9 else if t = 41 then 10 else if t = 64 then 11 else if t = 65 then 12 else 13
def body (b : List UInt8) (i kind len : Nat) : Option PRec :=
  match kind with
  | 1 => (rdBytes b i 4).map fun d => { kind := 1, data := d }
  | 8 => (rdBytes b i 16).map fun d => { kind := 8, data := d }
  | 2 => (name b i).map fun h => { kind := 2, host := h.1 }
  | 3 => (name b i).map fun h => { kind := 3, host := h.1 }
  | 5 => (name b i).map fun h => { kind := 5, host := h.1 }
  | 6 => (rd16 b i).bind fun n1 => (name b (i + 2)).map fun h => { kind := 6, n1 := n1, host := h.1 }
  | 9 => (rd16 b i).bind fun n1 => (rd16 b (i + 2)).bind fun n2 => (rd16 b (i + 4)).bind fun n3 => (name b (i + 6)).map fun h => { kind := 9, n1 := n1, n2 := n2, n3 := n3, host := h.1 }
  | 4 => (name b i).bind fun h => (name b h.2).bind fun x => (rd32 b x.2).bind fun n1 => (rd32 b (x.2 + 4)).bind fun n2 => (rd32 b (x.2 + 8)).bind fun n3 => (rd32 b (x.2 + 12)).bind fun n4 =>
      (rd32 b (x.2 + 16)).map fun n5 => { kind := 4, host := h.1, box := x.1, n1 := n1, n2 := n2, n3 := n3, n4 := n4, n5 := n5 }
  | 7 => (textsS b i (i + len) []).map fun l => { kind := 7, texts := l }
  | 10 => (optsS b i (i + len) []).map fun l => { kind := 10, pairs := l }
  | 11 => (rd16 b i).bind fun n1 => (name b (i + 2)).bind fun h => (parsS b h.2 (i + len) []).map fun l => { kind := 11, n1 := n1, host := h.1, pairs := l }
  | 12 => (rd16 b i).bind fun n1 => (name b (i + 2)).bind fun h => (parsS b h.2 (i + len) []).map fun l => { kind := 12, n1 := n1, host := h.1, pairs := l }
  | k => (rdBytes b i len).map fun d => { kind := k, data := d }
def ask (b : List UInt8) (i : Nat) : Option (PAsk × Nat) :=
  (name b i).bind fun h => (rd16 b h.2).bind fun t => (rd16 b (h.2 + 2)).map fun c => (⟨h.1, t, c⟩, h.2 + 4)
def header (b : List UInt8) (i : Nat) : Option (PRec × Nat) :=
  (name b i).bind fun h => (rd16 b h.2).bind fun t => (rd16 b (h.2 + 2)).bind fun c => (rd32 b (h.2 + 4)).bind fun ttl => (rd16 b (h.2 + 8)).map fun n =>
    ({ name := h.1, type := t, cls := c, ttl := ttl, length := n }, h.2 + 10)
def skipRec (b : List UInt8) (i : Nat) : Option Nat :=
  (pass b i).bind fun e => if e + 10 ≤ b.length then if e + 10 + w16 b (e + 8) ≤ b.length then some (e + 10 + w16 b (e + 8)) else none else none
def skipAsk (b : List UInt8) (i : Nat) : Option Nat :=
  (pass b i).bind fun e => if e + 4 ≤ b.length then some (e + 4) else none
def whole (r h : PRec) : PRec := { r with name := h.name, type := h.type, cls := h.cls, ttl := h.ttl, length := h.length }
inductive EK where
  | ok | early | done | other
  deriving DecidableEq
def EK.num : EK → Nat
  | .ok => 0
  | .early => 1
  | .done => 2
  | .other => 3
structure PM where
  sec : Nat := 0
  index : Nat := 0
  at_ : Nat := 0
  valid : Bool := false
  headAt : Nat := 0
  htype : Nat := 0
  hlen : Nat := 0
def count (b : List UInt8) (s : Nat) : Nat := w16 b (2 + 2 * s)
section
variable (b : List UInt8)
def advance (m : PM) (s : Nat) : EK × PM :=
  if m.sec < s then (.early, m) else if s < m.sec then (.done, m)
  else if m.index = count b s then (.done, { m with valid := false, index := 0, sec := m.sec + 1 }) else (.ok, { m with valid := false })
def askM (m : PM) : EK × Option PAsk × PM :=
  match advance b m 1 with
  | (.ok, m1) => match ask b m1.at_ with
    | some (a, e) => (.ok, some a, { m1 with at_ := e, index := m1.index + 1 })
    | none => (.other, none, m1)
  | (k, m1) => (k, none, m1)
def passAskM (m : PM) : EK × PM :=
  match advance b m 1 with
  | (.ok, m1) => match skipAsk b m1.at_ with
    | some e => (.ok, { m1 with at_ := e, index := m1.index + 1 })
    | none => (.other, m1)
  | (k, m1) => (k, m1)
def beginM (m : PM) (s : Nat) : EK × Option PRec × PM :=
  match advance b (if m.valid then { m with at_ := m.headAt } else m) s with
  | (.ok, m1) => match header b m1.at_ with
    | some (r, e) => (.ok, some r, { m1 with valid := true, headAt := m1.at_, htype := r.type, hlen := r.length, at_ := e })
    | none => (.other, none, m1)
  | (k, m1) => (k, none, m1)
def recordM (m : PM) (s : Nat) : EK × Option PRec × PM :=
  match beginM b m s with
  | (.ok, some h, m1) => match body b m1.at_ (kindOfType h.type) h.length with
    | some r => (.ok, some (whole r h), { m1 with valid := false, at_ := m1.at_ + h.length, index := m1.index + 1 })
    | none => (.other, none, { m1 with valid := false })
  | (k, _, m1) => (k, none, m1)
def passM (m : PM) (s : Nat) : EK × PM :=
  if m.valid = true ∧ m.sec = s then
    if m.at_ + m.hlen ≤ b.length then (.ok, { m with at_ := m.at_ + m.hlen, valid := false, index := m.index + 1 }) else (.other, m)
  else match advance b m s with
    | (.ok, m1) => match skipRec b m1.at_ with
      | some e => (.ok, { m1 with at_ := e, index := m1.index + 1 })
      | none => (.other, m1)
    | (k, m1) => (k, m1)
def bodyM (m : PM) (kind : Nat) : EK × Option PRec × PM :=
  if m.valid = false ∨ (kind ≠ 13 ∧ kindOfType m.htype ≠ kind) then (.early, none, m)
  else match body b m.at_ kind m.hlen with
    | some r => (.ok, some (if kind = 13 then { r with type := m.htype } else r), { m with at_ := m.at_ + m.hlen, valid := false, index := m.index + 1 })
    | none => (.other, none, m)
def allAsks : Nat → PM → List PAsk → EK × List PAsk × PM
  | 0, m, acc => (.ok, acc, m)
  | n + 1, m, acc => match askM b m with
    | (.ok, some a, m1) => allAsks n m1 (acc ++ [a])
    | (.ok, none, m1) => (.other, [], m1)
    | (.done, _, m1) => (.ok, acc, m1)
    | (k, _, m1) => (k, [], m1)
def allRecs (s : Nat) : Nat → PM → List PRec → EK × List PRec × PM
  | 0, m, acc => (.ok, acc, m)
  | n + 1, m, acc => match recordM b m s with
    | (.ok, some a, m1) => allRecs s n m1 (acc ++ [a])
    | (.ok, none, m1) => (.other, [], m1)
    | (.done, _, m1) => (.ok, acc, m1)
    | (k, _, m1) => (k, [], m1)
def allPassAsk : Nat → PM → EK × PM
  | 0, m => (.ok, m)
  | n + 1, m => match passAskM b m with
    | (.ok, m1) => allPassAsk n m1
    | (.done, m1) => (.ok, m1)
    | (k, m1) => (k, m1)
def allPass (s : Nat) : Nat → PM → EK × PM
  | 0, m => (.ok, m)
  | n + 1, m => match passM b m s with
    | (.ok, m1) => allPass s n m1
    | (.done, m1) => (.ok, m1)
    | (k, m1) => (k, m1)
end
def fuel : Nat := 65537
def onlyRec (k : EK) (r : Option PRec) : PSeen := { fault := k.num, recs := match k, r with | .ok, some r => [r] | _, _ => [] }
section
variable (b : List UInt8)
def startM : PSeen × PM :=
  if b.length < 12 then ({ fault := 3 }, {}) else ({ id := w16 b 0, bits := w16 b 2 }, { sec := 1, at_ := 12 })
def questionM (m : PM) (step : Nat) : PSeen × PM :=
  if step = 2 then
    let r := askM b m
    ({ fault := r.1.num, asks := match r.1, r.2.1 with | .ok, some a => [a] | _, _ => [] }, r.2.2)
  else if step = 3 then
    let r := allAsks b fuel m []
    ({ fault := r.1.num, asks := if r.1 = .ok then r.2.1 else [] }, r.2.2)
  else if step = 4 then
    let r := passAskM b m
    ({ fault := r.1.num }, r.2)
  else
    let r := allPassAsk b fuel m
    ({ fault := r.1.num }, r.2)
def partM (m : PM) (s step : Nat) : PSeen × PM :=
  if step = 0 then
    let r := beginM b m s
    (onlyRec r.1 r.2.1, r.2.2)
  else if step = 1 then
    let r := recordM b m s
    (onlyRec r.1 r.2.1, r.2.2)
  else if step = 2 then
    let r := allRecs b s fuel m []
    ({ fault := r.1.num, recs := if r.1 = .ok then r.2.1 else [] }, r.2.2)
  else if step = 3 then
    let r := passM b m s
    ({ fault := r.1.num }, r.2)
  else
    let r := allPass b s fuel m
    ({ fault := r.1.num }, r.2)
def stepM (m kept : PM) (step : Int) : PSeen × PM × PM :=
  if step = 1 then let r := startM b; (r.1, r.2, kept)
  else if 2 ≤ step ∧ step ≤ 5 then let r := questionM b m step.toNat; (r.1, r.2, kept)
  else if 6 ≤ step ∧ step ≤ 20 then let r := partM b m (2 + (step.toNat - 6) / 5) ((step.toNat - 6) % 5); (r.1, r.2, kept)
  else if 20 < step ∧ step ≤ 33 then let r := bodyM b m (step.toNat - 20); (onlyRec r.1 r.2.1, r.2.2, kept)
  else if step = 40 then ({}, m, m)
  else if step = 41 then ({}, kept, kept)
  else ({ fault := 3 }, m, kept)
def runM : PM → PM → List Int → List PSeen
  | _, _, [] => []
  | m, kept, s :: r => let x := stepM b m kept s; x.1 :: runM x.2.1 x.2.2 r
def parseM (steps : List Int) : List PSeen := runM b {} {} steps
def unpackM : Option PMsg :=
  match parseM b [1, 3, 8, 13, 18] with
  | [s0, s1, s2, s3, s4] => if s0.fault = 0 ∧ s1.fault = 0 ∧ s2.fault = 0 ∧ s3.fault = 0 ∧ s4.fault = 0 then
      some { id := s0.id, bits := s0.bits, asks := s1.asks, answers := s2.recs, authorities := s3.recs, additionals := s4.recs } else none
  | _ => none
end
structure WF (b : List UInt8) (m : PM) : Prop where
  before : m.sec = 0 → m = {}
  secs : m.sec ≤ 5
  behind : m.sec = 5 → m.index = 0 ∧ m.valid = false
  idx : 1 ≤ m.sec → m.sec ≤ 4 → m.index ≤ count b m.sec
  idxV : m.valid = true → m.index < count b m.sec ∧ m.headAt ≤ b.length ∧ m.at_ ≤ b.length
  long : 1 ≤ m.sec → 12 ≤ b.length
  at_le : m.at_ ≤ b.length + 65535
  hl : m.hlen < 65536
  ht : m.htype < 65536
theorem cW (b : List UInt8) (s : Nat) : count b s < 65536 := w16_lt _ _
end Go.Proofs.YtgpfjlfkaoffeaaGreatDoor
namespace Go.Proofs.YtgpfjlfkaoffeaaGreatDoor
open Go
theorem lset_of {α : Type} {l : List α} {p : Nat} (v : α) (h : p < l.length) : lset l p v = some (l.set p v) := by
  induction l generalizing p with
  | nil => simp at h
  | cons x r ih =>
    cases p with
    | zero => rfl
    | succ p => simp only [lset, ih (by simpa using h)]; rfl
section
variable {P : Program} {n : Nat} {ρ : Env} {w0 : Base} {w : World} {L : List (Nat × Obj)} {K : Env → World → Prop} {d : Tmp} {ty : TypeId} {pos : String} {af : Array Edge} {g : Option (Nat × Bool)}
theorem o_storeP {T : TypeId} {x y : Operand} {kk k b p : Nat} {l l' : List Value} {E : TypeId} {v : Value} {L' : List (Nat × Obj)} (hs : St w0 w L) (hT : kindOf P T = some (false, kk)) (h1 : kk = 1)
    (hx : ev ρ x = some (.pointer (some ⟨b, p, none⟩))) (hy : ev ρ y = some v) (hv : v.oneCell' = true) (hk : lget L k = some (b, .cells l.toArray E (0, 0))) (hp : p < l.length) (hl : l.set p v = l')
    (hL : lset L k (b, .cells l'.toArray E (0, 0)) = some L') (hK : ∀ w', St w0 w' L' → K ρ w') : OW P n ⟨none, .store T x y, ty, pos, af, g⟩ K ρ w := by
  subst hl
  exact aS hs hT h1 hx hy hv hk (lset_of v hp) hL hK
theorem po_fa0' {S : TypeId} {x : Operand} {f b p : Nat} (hS : fieldOff P S f = some 0) (hx : ev ρ x = some (.pointer (some ⟨b, p, none⟩))) :
    PO P (.fieldAddr S x f) ρ w (.pointer (some ⟨b, p, none⟩)) := bD hS hx
theorem po_part {T e : TypeId} {x xl xh : Operand} {k k' : IntKind} {b p len cap : Nat} {lo hi : Int} (l m : Nat) (hT : elemSize P T = some (e, 1)) (hx : ev ρ x = some (.slice (some ⟨b, p, none⟩) len cap)) (hl : ev ρ xl = some (.int k lo))
    (hh : ev ρ xh = some (.int k' hi)) (h1 : lo = l) (h2 : hi = (l + m : Nat)) (h0 : 0 < m) (hc : l + m ≤ cap) : PO P (.slice T x (some xl) (some xh) none) ρ w (.slice (some ⟨b, p + l, none⟩) m (cap - l)) := by
  subst h1 h2
  have h := po_slice (w := w) hT hx (.yes _ hl (by omega)) (.yes _ hh (by omega)) (by omega) (by omega)
  have e1 : sliceAddr (some ⟨b, p, none⟩) ((l : Int)).toNat cap 1 = some ⟨b, p + l, none⟩ := by
    simp only [Int.toNat_natCast, sliceAddr]
    rw [if_neg (by omega)]
    simp [add_at]
  have e2 : ((l + m : Nat) : Int).toNat - ((l : Int)).toNat = m := by omega
  rw [e1, e2, Int.toNat_natCast] at h
  exact h
theorem po_slice_arr0 {T e : TypeId} {x : Operand} {n b p k : Nat} {kk : IntKind} (hT : arrSize P T = some (n, e, k)) (h0 : 0 < n) (hx : ev ρ x = some (.pointer (some ⟨b, p, none⟩))) :
    PO P (.slice T x none (some (.const (.int kk 0))) none) ρ w (.slice (some ⟨b, p, none⟩) 0 n) := by
  have h := po_slice_arr (w := w) (hi := some (.const (.int kk 0))) hT hx (.no _) (.yes (k := kk) (i := 0) _ rfl (by omega)) (by omega) (by simp)
  rw [if_neg (by omega)] at h
  simpa using h
end
theorem byteAt_seg {l : List UInt8} {i n j : Nat} (h : j < n) : byteAt (seg l i n) j = byteAt l (i + j) := by
  simp [byteAt, seg, List.getD, h]
theorem cells_seg {V : Vw} {l : List UInt8} {b p i n : Nat} (hc : ∀ i, i < l.length → V.cell b (p + i) = some (.int .u8 (byteAt l i))) (h : i + n ≤ l.length) :
    ∀ j, j < (seg l i n).length → V.cell b (p + i + j) = some (.int .u8 (byteAt (seg l i n) j)) := by
  intro j hj
  rw [seg_len h] at hj
  rw [byteAt_seg hj, Nat.add_assoc]
  exact hc _ (by omega)
theorem getElem_byte {l : List UInt8} {j : Nat} {u : Value} (h : (l.map byteVal)[j]? = some u) : j < l.length ∧ u = .int .u8 (byteAt l j) := by
  simp only [List.getElem?_map, Option.map_eq_some_iff] at h
  obtain ⟨x, hx, rfl⟩ := h
  have hlt : j < l.length := by
    rcases Nat.lt_or_ge j l.length with h' | h'
    · exact h'
    · simp [List.getElem?_eq_none h'] at hx
  refine ⟨hlt, ?_⟩
  simp only [byteVal, byteAt, List.getD, hx, Option.getD_some]
theorem src_seg {P : Program} {V : Vw} {w : World} {l : List UInt8} {b p i n c : Nat} (hV : V.In w) (hc : ∀ i, i < l.length → V.cell b (p + i) = some (.int .u8 (byteAt l i))) (h : i + n ≤ l.length) :
    Src P w 1 (.slice (some ⟨b, p + i, none⟩) n c) n ((seg l i n).map byteVal) := by
  refine src_slice (by simp [seg_len h]) fun j u hu => ?_
  obtain ⟨hj, rfl⟩ := getElem_byte hu
  exact Vw.cell_in hV (cells_seg hc h j hj)
theorem has46 {l : List UInt8} : l.contains 46 = true ↔ ∃ j, j < l.length ∧ byteAt l j = 46 := by
  rw [List.contains_iff_mem, List.mem_iff_getElem]
  constructor
  · rintro ⟨j, hj, he⟩
    exact ⟨j, hj, by simp [byteAt, List.getD, List.getElem?_eq_getElem hj, he]⟩
  · rintro ⟨j, hj, he⟩
    refine ⟨j, hj, ?_⟩
    simp only [byteAt, List.getD, List.getElem?_eq_getElem hj, Option.getD_some] at he
    exact UInt8.toNat_inj.1 he
theorem dH (l : List UInt8) : Flat (l.map byteVal) := fun v hv => by
  obtain ⟨x, _, rfl⟩ := List.mem_map.1 hv
  rfl
def nmC (out : List UInt8) (n : Nat) : List Value := out.map byteVal ++ rep (255 - out.length) (.int .u8 0) ++ [.int .u8 n]
theorem cM {out : List UInt8} {n : Nat} (h : out.length ≤ 255) : (nmC out n).length = 256 := by simp [nmC]; omega
theorem flat_nmC (out : List UInt8) (n : Nat) : Flat (nmC out n) := flat_app (flat_app (dH out) (flat_rep _ rfl)) (bX rfl flat_nil)
theorem nmC_app {pre post : List Value} {out news : List UInt8} {n np : Nat} (hp : pre.length = np) (h : out.length + news.length ≤ 255) :
    (pre ++ nmC out n ++ post).take (np + out.length * 1) ++ news.map byteVal ++ (pre ++ nmC out n ++ post).drop (np + out.length * 1 + news.length * 1) = pre ++ nmC (out ++ news) n ++ post := by
  subst hp
  have e1 : pre ++ nmC out n ++ post = (pre ++ out.map byteVal) ++ (rep (255 - out.length) (.int .u8 0) ++ [.int .u8 n] ++ post) := by simp [nmC]
  have e2 : pre.length + out.length * 1 = (pre ++ out.map byteVal).length := by simp
  rw [e1, ← List.drop_drop, e2, List.take_left, List.drop_left]
  have e3 : (255 - out.length) = news.length + (255 - (out ++ news).length) := by simp; omega
  have e4 : rep (255 - out.length) (Value.int .u8 0) = rep news.length (.int .u8 0) ++ rep (255 - (out ++ news).length) (.int .u8 0) := by rw [e3]; simp [rep, List.replicate_append_replicate]
  rw [e4, Nat.mul_one]
  have e5 : (rep news.length (Value.int .u8 0) ++ rep (255 - (out ++ news).length) (.int .u8 0) ++ [Value.int .u8 n] ++ post).drop news.length = rep (255 - (out ++ news).length) (Value.int .u8 0) ++ [Value.int .u8 n] ++ post := by
    rw [List.append_assoc, List.append_assoc, List.drop_left' (by simp)]
    simp
  rw [e5]
  simp [nmC]
theorem nmC_set {pre post : List Value} {out : List UInt8} {n m np : Nat} (hp : pre.length = np) (h : out.length ≤ 255) :
    (pre ++ nmC out n ++ post).set (np + 255) (.int .u8 m) = pre ++ nmC out m ++ post := by
  subst hp
  have e1 : ∀ k, pre ++ nmC out k ++ post = (pre ++ (out.map byteVal ++ rep (255 - out.length) (.int .u8 0))) ++ (.int .u8 k :: post) := fun k => by simp [nmC]
  rw [e1, e1, List.set_append_right _ _ (by simp; omega)]
  have : pre.length + 255 - (pre ++ (out.map byteVal ++ rep (255 - out.length) (Value.int .u8 0))).length = 0 := by simp; omega
  rw [this]
  rfl
section
variable {P : Program} {n : Nat} {ρ : Env} {w0 : Base} {w : World} {L : List (Nat × Obj)} {K : Env → World → Prop} {d : Tmp} {ty : TypeId} {pos : String} {af : Array Edge} {g : Option (Nat × Bool)}
theorem o_appName {t u e : TypeId} {bytes m kk nb np z : Nat} {zs pre post : List Value} {out news : List UInt8} {s x : Operand} {xv : Value} {E : TypeId} {L' : List (Nat × Obj)} (ht : eltOk P t = some (e, 1, bytes, zs)) (hu : SS P u)
    (hs : St w0 w L) (hpre : pre.length = np) (hsv : ev ρ s = some (.slice (some ⟨nb, np, none⟩) out.length 255)) (hx : ev ρ x = some xv) (hsrc : Src P w 1 xv m (news.map byteVal)) (hm : m = news.length)
    (hkk : lget L kk = some (nb, .cells (pre ++ nmC out z ++ post).toArray E (0, 0))) (hroom : out.length + news.length ≤ 255)
    (hL : lset L kk (nb, .cells (pre ++ nmC (out ++ news) z ++ post).toArray E (0, 0)) = some L') (hd : Nat.blt d n = true)
    (hk : ∀ w', St w0 w' L' → K (upd ρ d (.slice (some ⟨nb, np, none⟩) (out ++ news).length 255)) w') :
    OW P n ⟨some d, .call { callee := .builtin .append, args := #[s, x], argTypes := #[t, u] }, ty, pos, af, g⟩ K ρ w := by
  subst hm
  have e1 := nmC_app (pre := pre) (post := post) (out := out) (news := news) (n := z) hpre hroom
  refine o_appendAt (kk := kk) (k := news.length) (l := pre ++ nmC out z ++ post) (L' := L') ht hu hs hsv hx hsrc (dH _) hkk hroom ?_ (by rw [e1]; exact hL) hd ?_
  · rw [List.length_append, List.length_append, cM (by omega)]; omega
  · intro w' hs'
    have := hk w' hs'
    rwa [List.length_append] at this
end
theorem i64shl8 {a : Nat} (h : a < 65536) : IntKind.i64.wrap ((a : Int) * 2 ^ (min (8 : Int).toNat IntKind.i64.bits)) = ((a * 256 : Nat) : Int) := by
  have : (2 : Int) ^ (min (8 : Int).toNat IntKind.i64.bits) = 256 := by decide
  rw [this]
  exact i64c (by omega) (by omega)
theorem nameS_e (b : List UInt8) (i : Nat) (out : List UInt8) (j e e' : Nat) (hj : j = 0) : nameS b i out j e = nameS b i out j e' := by
  fun_induction nameS b i out j e with
  | case1 i out jumps e hi h0 h1 => rw [nameS, dif_pos hi, if_pos h0, if_pos h1]
  | case2 i out jumps e hi h0 h1 => rw [nameS, dif_pos hi, if_pos h0, if_neg h1]; simp [hj]
  | case3 i out jumps e hi h0 hc hl hd => rw [nameS, dif_pos hi, if_neg h0, dif_pos hc, dif_pos hl, if_pos hd]
  | case4 i out jumps e hi h0 hc hl hd ih =>
    rw [ih hj]
    conv => rhs; rw [nameS, dif_pos hi, if_neg h0, dif_pos hc, dif_pos hl, if_neg hd]
  | case5 i out jumps e hi h0 hc hl => rw [nameS, dif_pos hi, if_neg h0, dif_pos hc, dif_neg hl]
  | case6 i out jumps e hi h0 hc hc2 hl hj' ih =>
    conv => rhs; rw [nameS, dif_pos hi, if_neg h0, dif_neg hc, if_pos hc2, if_pos hl, dif_pos hj']
    simp [hj]
  | case7 i out jumps e hi h0 hc hc2 hl hj' => rw [nameS, dif_pos hi, if_neg h0, dif_neg hc, if_pos hc2, if_pos hl, dif_neg hj']
  | case8 i out jumps e hi h0 hc hc2 hl => rw [nameS, dif_pos hi, if_neg h0, dif_neg hc, if_pos hc2, if_neg hl]
  | case9 i out jumps e hi h0 hc hc2 => rw [nameS, dif_pos hi, if_neg h0, dif_neg hc, if_neg hc2]
  | case10 i out jumps e hi => rw [nameS, dif_neg hi]
theorem RB.part {V : Vw} {a : Option Addr} {cap i m : Nat} {l : List UInt8} (hb : RB V (.slice a l.length cap) l) (h : i + m ≤ l.length) : RB V (.slice (sliceAddr a i cap 1) m (cap - i)) (seg l i m) := by
  have hm : (seg l i m).length = m := seg_len h
  unfold RB
  rw [hm]
  refine ⟨by simp [hm], ?_⟩
  rcases hb.2 with ⟨h1, h2⟩ | ⟨b, p, c, h1, h2, h3⟩
  · have hl : l.length = 0 := h2
    have hi : i = 0 := by omega
    have hm0 : m = 0 := by omega
    subst hi hm0
    simp only [Value.slice.injEq] at h1
    obtain ⟨rfl, _, rfl⟩ := h1
    exact .inl ⟨rfl, rfl⟩
  · simp only [Value.slice.injEq] at h1
    obtain ⟨rfl, _, rfl⟩ := h1
    by_cases hc : cap = i
    · subst hc
      have hm0 : m = 0 := by omega
      subst hm0
      refine .inr ⟨b, p, cap - cap, by simp [sliceAddr], by omega, fun j u hu => ?_⟩
      have : (seg l cap 0).map byteVal = [] := by simp [seg]
      rw [this] at hu
      simp at hu
    · refine .inr ⟨b, p + i, cap - i, by simp [sliceAddr, hc, add_at], by omega, fun j u hu => ?_⟩
      obtain ⟨hj, rfl⟩ := getElem_byte hu
      rw [hm] at hj
      rw [byteAt_seg hj, Nat.add_assoc]
      refine h3 _ _ ?_
      have hlt : i + j < l.length := by omega
      simp [byteVal, byteAt, List.getD, List.getElem?_eq_getElem hlt]
section
variable {P : Program} {ρ : Env} {w : World}
theorem po_partR {T e : TypeId} {x xl xh : Operand} {k k' : IntKind} {a : Option Addr} {len cap : Nat} {lo hi : Int} (l m : Nat) (hT : elemSize P T = some (e, 1)) (hx : ev ρ x = some (.slice a len cap)) (hl : ev ρ xl = some (.int k lo))
    (hh : ev ρ xh = some (.int k' hi)) (h1 : lo = l) (h2 : hi = (l + m : Nat)) (hc : l + m ≤ cap) : PO P (.slice T x (some xl) (some xh) none) ρ w (.slice (sliceAddr a l cap 1) m (cap - l)) := by
  subst h1 h2
  have h := po_slice (w := w) hT hx (.yes _ hl (by omega)) (.yes _ hh (by omega)) (by omega) (by omega)
  have e2 : ((l + m : Nat) : Int).toNat - ((l : Int)).toNat = m := by omega
  rw [e2, Int.toNat_natCast] at h
  exact h
theorem po_tailR {T e : TypeId} {x xl : Operand} {k : IntKind} {a : Option Addr} {len cap : Nat} {lo : Int} (l : Nat) (hT : elemSize P T = some (e, 1)) (hx : ev ρ x = some (.slice a len cap)) (hl : ev ρ xl = some (.int k lo))
    (h1 : lo = l) (h2 : l ≤ len) (hc : len ≤ cap) : PO P (.slice T x (some xl) none none) ρ w (.slice (sliceAddr a l cap 1) (len - l) (cap - l)) := by
  subst h1
  have h := po_slice (w := w) hT hx (.yes _ hl (by omega)) (.no _) (by omega) hc
  rw [Int.toNat_natCast] at h
  exact h
theorem po_bytesStrR {S D e : TypeId} {x : Operand} {V : Vw} {v : Value} {l : List UInt8} (hb : RB V v l) (hV : V.In w) (hS : P.underlying S = some (.slice e)) (he : P.underlying e = some (.int .u8)) (hD : P.underlying D = some .string)
    (hx : ev ρ x = some v) : PO P (.convert S D x) ρ w (.string (ofBytes l)) := by
  rcases hb.2 with ⟨h1, h2⟩ | ⟨b, p, c, h1, h2, h3⟩
  · have : l = [] := List.eq_nil_of_length_eq_zero h2
    subst this h1
    exact po_bytesStr_nil hS he hD hx
  · subst h1
    exact po_bytesStr hS he hD hx fun i u hi => Vw.cell_in hV (h3 i _ (by simp [hi, byteVal]))
end
theorem RB.src {P : Program} {w : World} {V : Vw} {v : Value} {l : List UInt8} (h : RB V v l) (hV : V.In w) : Src P w 1 v l.length (l.map byteVal) := SlV.src h hV
theorem RB.len {P : Program} {w : World} {V : Vw} {v : Value} {l : List UInt8} (h : RB V v l) : (Builtin.lenOf v).run P w = .ok l.length w := by
  obtain ⟨a, cap, rfl, _⟩ := h.form
  simp [Builtin.lenOf]
end Go.Proofs.YtgpfjlfkaoffeaaGreatDoor

/- What is read may be packed: sizes of a message that was read. The law FnUnpackAgain. What the row's list gives: the package's variables as the walks want them; what the walks leave, for the row. The map that is laid. What the row lists, for the walks. Made by a program of this claim (genW3.py). -/
import Derived.Test.YtgpfjlfkaoffeaaGreatDoorU14
import Derived.Test.YtgpfjlfkaoffeaaGreatDoorU25
import Derived.Test.YtgpfjlfkaoffeaaGreatDoorU38
import Derived.Test.YtgpfjlfkaoffeaaGreatDoorU33
import Derived.Test.YtgpfjlfkaoffeaaGreatDoorU10
import Derived.Carry
import Derived.OpenVars
import Derived.LaidLaws
import Derived.LaidSub
import GoSem.ClaimJoined
import Derived.WideKeyElems2
import Derived.Test.YtgpfjlfkaoffeaaGreatDoorRows
set_option linter.all false
namespace Go.Proofs.YtgpfjlfkaoffeaaGreatDoor
open Go
structure RecRd (r : fY) : Prop where
  name : r.name.length ≤ 254
  host : r.host.length ≤ 254
  box : r.box.length ≤ 254
  small : Small r
  text : ∀ s ∈ r.texts, s.length ≤ 255
  pair : ∀ p ∈ r.pairs, p.key < 65536 ∧ p.data.length < 65536
  k1 : 1 ≤ r.kind
  k13 : r.kind ≤ 13
  type : r.type < 65536
  cls : r.cls < 65536
  length : r.length < 65536
theorem seg_le (b : List UInt8) (i n : Nat) : (seg b i n).length ≤ n := by unfold seg; rw [List.length_take]; omega
theorem textsS_rd {b : List UInt8} {i e : Nat} {acc l : List (List UInt8)} (h : textsS b i e acc = some l) (ha : ∀ s ∈ acc, s.length ≤ 255) : ∀ s ∈ l, s.length ≤ 255 := by
  fun_induction textsS b i e acc with
  | case1 i acc hi hc ih =>
    refine ih h fun s hs => ?_
    rcases List.mem_append.1 hs with hs | hs
    · exact ha s hs
    · simp only [List.mem_singleton] at hs
      subst hs
      have h1 := seg_le b (i + 1) (eB b i)
      have h2 := cU b i
      omega
  | case2 i acc hi hc => cases h
  | case3 acc => cases h; exact ha
theorem optsS_rd {b : List UInt8} {i e : Nat} {acc l : List fU} (h : optsS b i e acc = some l) (ha : ∀ p ∈ acc, p.key < 65536 ∧ p.data.length < 65536) : ∀ p ∈ l, p.key < 65536 ∧ p.data.length < 65536 := by
  fun_induction optsS b i e acc with
  | case1 i acc hi hc ih =>
    refine ih h fun p hp => ?_
    rcases List.mem_append.1 hp with hp | hp
    · exact ha p hp
    · simp only [List.mem_singleton] at hp
      subst hp
      have h1 := seg_le b (i + 4) (w16 b (i + 2))
      have h2 := w16_lt b (i + 2)
      exact ⟨w16_lt b i, by show (seg _ _ _).length < _; omega⟩
  | case2 i acc hi hc => cases h
  | case3 acc => cases h; exact ha
theorem parsS_rd {b : List UInt8} {i e : Nat} {acc l : List fU} (h : parsS b i e acc = some l) (ha : ∀ p ∈ acc, p.key < 65536 ∧ p.data.length < 65536) : ∀ p ∈ l, p.key < 65536 ∧ p.data.length < 65536 := by
  fun_induction parsS b i e acc with
  | case1 i acc hi hc ih =>
    refine ih h fun p hp => ?_
    rcases List.mem_append.1 hp with hp | hp
    · exact ha p hp
    · simp only [List.mem_singleton] at hp
      subst hp
      have h1 := seg_le b (i + 4) (w16 b (i + 2))
      have h2 := w16_lt b (i + 2)
      exact ⟨w16_lt b i, by show (seg _ _ _).length < _; omega⟩
  | case2 i acc hi hc => cases h
  | case3 acc => cases h; exact ha
  | case4 => cases h
structure BodyRd (r : fY) : Prop where
  host : r.host.length ≤ 254
  box : r.box.length ≤ 254
  text : ∀ s ∈ r.texts, s.length ≤ 255
  pair : ∀ p ∈ r.pairs, p.key < 65536 ∧ p.data.length < 65536
theorem body_rd {l : List UInt8} {i kind len : Nat} {r : fY} (h : body l i kind len = some r) : BodyRd r ∧ r.kind = kind := by
  have hn : ∀ {i : Nat} {x : List UInt8 × Nat}, name l i = some x → x.1.length ≤ 254 := fun h => (name_some h).2.1
  unfold body at h
  split at h
  all_goals
    simp only [Option.map_eq_some_iff, Option.bind_eq_some_iff] at h
  case h_1 | h_2 | h_13 =>
    obtain ⟨d, hd, rfl⟩ := h
    exact ⟨⟨Nat.zero_le _, Nat.zero_le _, (fun _ h => by cases h), (fun _ h => by cases h)⟩, rfl⟩
  case h_3 | h_4 | h_5 =>
    obtain ⟨x, hx, rfl⟩ := h
    exact ⟨⟨hn hx, Nat.zero_le _, (fun _ h => by cases h), (fun _ h => by cases h)⟩, rfl⟩
  case h_6 =>
    obtain ⟨n1, _, x, hx, rfl⟩ := h
    exact ⟨⟨hn hx, Nat.zero_le _, (fun _ h => by cases h), (fun _ h => by cases h)⟩, rfl⟩
  case h_7 =>
    obtain ⟨n1, _, n2, _, n3, _, x, hx, rfl⟩ := h
    exact ⟨⟨hn hx, Nat.zero_le _, (fun _ h => by cases h), (fun _ h => by cases h)⟩, rfl⟩
  case h_8 =>
    obtain ⟨x, hx, y, hy, n1, _, n2, _, n3, _, n4, _, n5, _, rfl⟩ := h
    exact ⟨⟨hn hx, hn hy, (fun _ h => by cases h), (fun _ h => by cases h)⟩, rfl⟩
  case h_9 =>
    obtain ⟨d, hd, rfl⟩ := h
    exact ⟨⟨Nat.zero_le _, Nat.zero_le _, textsS_rd hd (fun _ h => by cases h), (fun _ h => by cases h)⟩, rfl⟩
  case h_10 =>
    obtain ⟨d, hd, rfl⟩ := h
    exact ⟨⟨Nat.zero_le _, Nat.zero_le _, (fun _ h => by cases h), optsS_rd hd (fun _ h => by cases h)⟩, rfl⟩
  case h_11 | h_12 =>
    obtain ⟨n1, _, x, hx, d, hd, rfl⟩ := h
    exact ⟨⟨hn hx, Nat.zero_le _, (fun _ h => by cases h), parsS_rd hd (fun _ h => by cases h)⟩, rfl⟩
theorem rd16_lt {b : List UInt8} {i n : Nat} (h : rd16 b i = some n) : n < 65536 := by
  unfold rd16 at h
  split at h
  · cases h; exact w16_lt b i
  · cases h
theorem kindOf_rd (t : Nat) : 1 ≤ eE t ∧ eE t ≤ 13 := by
  unfold eE
  repeat' split
  all_goals omega
theorem record_rd {b : List UInt8} {i e : Nat} {h r : fY} (hh : header b i = some (h, e)) {j : Nat} (hb : body b j (eE h.type) h.length = some r) : RecRd (whole r h) := by
  simp only [header, Option.bind_eq_some_iff, Option.map_eq_some_iff] at hh
  obtain ⟨x, h1, t, h2, c, h3, ttl, h4, len, h5, h6⟩ := hh
  cases h6
  obtain ⟨hbr, hk⟩ := body_rd hb
  have hsm := body_small hb (Nat.le_of_lt (rd16_lt h5))
  have hkk := kindOf_rd t
  refine ⟨(name_some h1).2.1, hbr.host, hbr.box, hsm, hbr.text, hbr.pair, ?_, ?_, rd16_lt h2, rd16_lt h3, rd16_lt h5⟩
  · show 1 ≤ r.kind
    rw [hk]; exact hkk.1
  · show r.kind ≤ 13
    rw [hk]; exact hkk.2
theorem recordM_rd {b : List UInt8} {m m' : PM} {s : Nat} {r : fY} (h : recordM b m s = (.ok, some r, m')) : RecRd r := by
  unfold recordM at h
  split at h
  · rename_i hr m1 he
    split at h
    · rename_i r0 hb
      simp only [Prod.mk.injEq, Option.some.injEq, true_and] at h
      obtain ⟨rfl, _⟩ := h
      unfold beginM at he
      split at he
      · split at he
        · rename_i r1 e1 hh
          simp only [Prod.mk.injEq, Option.some.injEq, true_and] at he
          obtain ⟨rfl, rfl⟩ := he
          exact record_rd hh hb
        · simp at he
      · simp at he
    · simp at h
  · simp at h
theorem allRecs_rd {b : List UInt8} {s : Nat} : ∀ (n : Nat) (m : PM) (acc : List fY) (k : EK) (l : List fY) (m' : PM), (∀ r ∈ acc, RecRd r) → eR b s n m acc = (k, l, m') → ∀ r ∈ l, RecRd r
  | 0, m, acc, k, l, m', ha, h => by
    simp only [eR, Prod.mk.injEq] at h
    obtain ⟨_, rfl, _⟩ := h
    exact ha
  | n + 1, m, acc, k, l, m', ha, h => by
    unfold eR at h
    split at h
    · rename_i a m1 he
      refine allRecs_rd n m1 _ k l m' (fun r hr => ?_) h
      rcases List.mem_append.1 hr with hr | hr
      · exact ha r hr
      · simp only [List.mem_singleton] at hr
        subst hr
        exact recordM_rd he
    · simp only [Prod.mk.injEq] at h
      obtain ⟨_, rfl, _⟩ := h
      intro r hr; cases hr
    · simp only [Prod.mk.injEq] at h
      obtain ⟨_, rfl, _⟩ := h
      exact ha
    · simp only [Prod.mk.injEq] at h
      obtain ⟨_, rfl, _⟩ := h
      intro r hr; cases hr
def AskRd (a : PAsk) : Prop := a.name.length ≤ 254 ∧ a.type < 65536 ∧ a.cls < 65536
theorem askM_rd {b : List UInt8} {m m' : PM} {a : PAsk} (h : askM b m = (.ok, some a, m')) : AskRd a := by
  unfold askM at h
  split at h
  · split at h
    · rename_i a0 e0 hh
      simp only [Prod.mk.injEq, Option.some.injEq, true_and] at h
      obtain ⟨rfl, _⟩ := h
      simp only [ask, Option.bind_eq_some_iff, Option.map_eq_some_iff] at hh
      obtain ⟨x, h1, t, h2, c, h3, h6⟩ := hh
      cases h6
      exact ⟨(name_some h1).2.1, rd16_lt h2, rd16_lt h3⟩
    · simp at h
  · simp at h
theorem allAsks_rd {b : List UInt8} : ∀ (n : Nat) (m : PM) (acc : List PAsk) (k : EK) (l : List PAsk) (m' : PM), (∀ r ∈ acc, AskRd r) → fQ b n m acc = (k, l, m') → ∀ r ∈ l, AskRd r
  | 0, m, acc, k, l, m', ha, h => by
    simp only [fQ, Prod.mk.injEq] at h
    obtain ⟨_, rfl, _⟩ := h
    exact ha
  | n + 1, m, acc, k, l, m', ha, h => by
    unfold fQ at h
    split at h
    · rename_i a m1 he
      refine allAsks_rd n m1 _ k l m' (fun r hr => ?_) h
      rcases List.mem_append.1 hr with hr | hr
      · exact ha r hr
      · simp only [List.mem_singleton] at hr
        subst hr
        exact askM_rd he
    · simp only [Prod.mk.injEq] at h
      obtain ⟨_, rfl, _⟩ := h
      intro r hr; cases hr
    · simp only [Prod.mk.injEq] at h
      obtain ⟨_, rfl, _⟩ := h
      exact ha
    · simp only [Prod.mk.injEq] at h
      obtain ⟨_, rfl, _⟩ := h
      intro r hr; cases hr
def toMess (x : PMsg) : PMess :=
  ⟨⟨x.id, x.bits.testBit 15, x.bits / 2048 % 16, x.bits.testBit 10, x.bits.testBit 9, x.bits.testBit 8, x.bits.testBit 7, x.bits.testBit 5, x.bits.testBit 4, x.bits % 16⟩, x.asks, x.answers, x.authorities, x.additionals⟩
structure MsgRd (x : PMsg) : Prop where
  ask : ∀ a ∈ x.asks, AskRd a
  ans : ∀ r ∈ x.answers, RecRd r
  aut : ∀ r ∈ x.authorities, RecRd r
  add : ∀ r ∈ x.additionals, RecRd r
  id : x.id < 65536
  nq : x.asks.length ≤ 70000
  na : x.answers.length ≤ 70000
  nu : x.authorities.length ≤ 70000
  nd : x.additionals.length ≤ 70000
theorem allRecs_cnt {b : List UInt8} {s : Nat} : ∀ (n : Nat) (m : PM) (acc : List fY) (k : EK) (l : List fY) (m' : PM), eR b s n m acc = (k, l, m') → l.length ≤ acc.length + n
  | 0, m, acc, k, l, m', h => by
    simp only [eR, Prod.mk.injEq] at h
    obtain ⟨_, rfl, _⟩ := h
    omega
  | n + 1, m, acc, k, l, m', h => by
    unfold eR at h
    split at h
    · have := allRecs_cnt n _ _ k l m' h
      simp only [List.length_append, List.length_cons, List.length_nil] at this
      omega
    all_goals
      simp only [Prod.mk.injEq] at h
      obtain ⟨_, rfl, _⟩ := h
      simp <;> omega
theorem allAsks_cnt {b : List UInt8} : ∀ (n : Nat) (m : PM) (acc : List PAsk) (k : EK) (l : List PAsk) (m' : PM), fQ b n m acc = (k, l, m') → l.length ≤ acc.length + n
  | 0, m, acc, k, l, m', h => by
    simp only [fQ, Prod.mk.injEq] at h
    obtain ⟨_, rfl, _⟩ := h
    omega
  | n + 1, m, acc, k, l, m', h => by
    unfold fQ at h
    split at h
    · have := allAsks_cnt n _ _ k l m' h
      simp only [List.length_append, List.length_cons, List.length_nil] at this
      omega
    all_goals
      simp only [Prod.mk.injEq] at h
      obtain ⟨_, rfl, _⟩ := h
      simp <;> omega
theorem unpackM_rd {b : List UInt8} {x : PMsg} (h : unpackM b = some x) : MsgRd x := by
  rw [unpackM_eq] at h
  unfold unpackN at h
  split at h
  · cases h
  · split at h
    · rename_i al m1 h1
      split at h
      · rename_i r1 m2 h2
        split at h
        · rename_i r2 m3 h3
          split at h
          · rename_i r3 m4 h4
            cases h
            have h0 : fuel = 65537 := rfl
            have c1 := allAsks_cnt _ _ _ _ _ _ h1
            have c2 := allRecs_cnt _ _ _ _ _ _ h2
            have c3 := allRecs_cnt _ _ _ _ _ _ h3
            have c4 := allRecs_cnt _ _ _ _ _ _ h4
            simp only [List.length_nil] at c1 c2 c3 c4
            exact ⟨allAsks_rd _ _ _ _ _ _ (fun _ h => by cases h) h1, allRecs_rd _ _ _ _ _ _ (fun _ h => by cases h) h2, allRecs_rd _ _ _ _ _ _ (fun _ h => by cases h) h3, allRecs_rd _ _ _ _ _ _ (fun _ h => by cases h) h4,
              w16_lt b 0, (by show al.length ≤ _; omega), (by show r1.length ≤ _; omega), (by show r2.length ≤ _; omega), (by show r3.length ≤ _; omega)⟩
          · cases h
        · cases h
      · cases h
    · cases h
theorem msgRd0 : MsgRd {} := ⟨(fun _ h => by cases h), (fun _ h => by cases h), (fun _ h => by cases h), (fun _ h => by cases h), (by decide), Nat.zero_le _, Nat.zero_le _, Nat.zero_le _, Nat.zero_le _⟩
theorem textsP_max {l : List (List UInt8)} (h : ∀ s ∈ l, s.length ≤ 255) : (fE l).length ≤ l.length * 256 := by
  induction l with
  | nil => exact Nat.le_refl _
  | cons a l ih =>
    have h1 := ih fun s hs => h s (List.mem_cons_of_mem _ hs)
    have h2 := h a (List.mem_cons_self ..)
    have e : fE (a :: l) = (UInt8.ofNat a.length :: a) ++ fE l := rfl
    rw [e]
    simp only [List.length_append, List.length_cons]
    omega
theorem pairsP_max {l : List fU} (h : ∀ p ∈ l, p.key < 65536 ∧ p.data.length < 65536) : (eX l).length ≤ l.length * 65540 := by
  induction l with
  | nil => exact Nat.le_refl _
  | cons a l ih =>
    have h1 := ih fun s hs => h s (List.mem_cons_of_mem _ hs)
    have h2 := h a (List.mem_cons_self ..)
    have e : eX (a :: l) = (be2 a.key ++ (be2 a.data.length ++ a.data)) ++ eX l := rfl
    rw [e]
    simp only [List.length_append, List.length_cons, eP]
    omega
theorem RecRd.sizes {r : fY} (h : RecRd r) : r.data.length ≤ 65536 ∧ (fE r.texts).length ≤ 16777216 ∧ (eX r.pairs).length ≤ 4295229440 := by
  have h1 := textsP_max h.text
  have h2 := pairsP_max h.pair
  obtain ⟨a, b, c, _⟩ := h.small
  exact ⟨a, by omega, by omega⟩
theorem RecRd.fitS {r : fY} (h : RecRd r) : FitS r := by
  obtain ⟨a, b, c⟩ := h.sizes
  exact ⟨by omega, by omega, by omega⟩
theorem type_lt {r : fY} (h : r.type < 65536) : eG r < 65536 := by
  unfold eG
  split <;> omega
theorem RecRd.ok {r : fY} (h : RecRd r) : RecOk r := by
  obtain ⟨a, b, c⟩ := h.sizes
  obtain ⟨s1, s2, s3, s4⟩ := h.small
  have := h.name
  have := h.host
  have := h.box
  exact ⟨⟨by omega, by omega, by omega, by omega, by omega, by omega, fun p hp => by have := s4 p hp; omega⟩, ⟨by omega, by omega, h.text, by omega, h.pair⟩, h.k1, h.k13, type_lt h.type, h.cls, h.length⟩
theorem sizeR_rd {r : fY} (h : RecRd r) : sizeR r ≤ 8589934592 := by
  obtain ⟨a, b, c⟩ := h.sizes
  have := h.name
  have := h.host
  have := h.box
  unfold sizeR
  omega
theorem sizeL_rd {l : List fY} (h : ∀ r ∈ l, RecRd r) : sizeL l ≤ l.length * 8589934592 := by
  unfold sizeL sumT
  rw [List.take_length]
  induction l with
  | nil => exact Nat.le_refl _
  | cons a l ih =>
    have h1 := ih fun s hs => h s (List.mem_cons_of_mem _ hs)
    have h2 := sizeR_rd (h a (List.mem_cons_self ..))
    simp only [List.map_cons, List.sum_cons, List.length_cons]
    omega
theorem sizeA_rd {l : List PAsk} (h : ∀ r ∈ l, AskRd r) : sumT askS l l.length ≤ l.length * 260 := by
  unfold sumT
  rw [List.take_length]
  induction l with
  | nil => exact Nat.le_refl _
  | cons a l ih =>
    have h1 := ih fun s hs => h s (List.mem_cons_of_mem _ hs)
    have h2 := (h a (List.mem_cons_self ..)).1
    simp only [List.map_cons, List.sum_cons, List.length_cons, askS]
    omega
theorem sizeM_rd {x : PMsg} (h : MsgRd x) : sizeM (toMess x) ≤ 4611686018427387904 := by
  have h1 := sizeA_rd h.ask
  have h2 := sizeL_rd h.ans
  have h3 := sizeL_rd h.aut
  have h4 := sizeL_rd h.add
  have := h.nq
  have := h.na
  have := h.nu
  have := h.nd
  show 12 + sumT askS x.asks x.asks.length + sizeL x.answers + sizeL x.authorities + sizeL x.additionals ≤ _
  omega
def Pkb (m : PMess) : Prop := (m.asks.length ≤ 65535 ∧ m.answers.length ≤ 65535 ∧ m.authorities.length ≤ 65535 ∧ m.additionals.length ≤ 65535) ∧ m.head.op ≤ 15 ∧ m.head.code ≤ 15 ∧ sizeM m ≤ 60000
theorem MsgRd.mok {x : PMsg} (h : MsgRd x) (hp : Pkb (toMess x)) : MOk (toMess x) := by
  obtain ⟨⟨a, b, c, d⟩, e, f, _⟩ := hp
  exact ⟨a, b, c, d, fun q hq => by obtain ⟨i, j, k⟩ := h.ask q hq; exact ⟨by omega, j, k⟩, fun r hr => (h.ans r hr).ok, fun r hr => (h.aut r hr).ok, fun r hr => (h.add r hr).ok, h.id, by omega, by omega⟩
theorem MsgRd.mfit {x : PMsg} (h : MsgRd x) (hp : Pkb (toMess x)) : MFit (toMess x) := by
  obtain ⟨⟨a, b, c, d⟩, e, f, _⟩ := hp
  exact ⟨a, b, c, d, by omega, by omega, fun r hr => (h.ans r hr).fitS, fun r hr => (h.aut r hr).fitS, fun r hr => (h.add r hr).fitS⟩
theorem RRecs.toK {V : Vw} {v : Value} {l : List fY} (h : RRecs V v l) (hl : ∀ r ∈ l, 1 ≤ r.kind ∧ r.kind ≤ 13) : RRecsK V v l := by
  obtain ⟨xs, hS, hR⟩ := h
  exact ⟨xs, hS, rows_mono_mem (fun r c hr hrc => hrc.toK (hl r hr).1 (hl r hr).2) hR⟩
theorem asksP_growL : ∀ {l : List PAsk} {w w2 : Ink}, asksP l w = some w2 → w2.out.length ≤ w.out.length + l.length * 600
  | [], w, w2, h => by cases h; simp
  | r :: l, w, w2, h => by
    obtain ⟨w1, h1, h2⟩ := Option.bind_eq_some_iff.1 h
    have := askP_grow h1
    have := asksP_growL h2
    simp only [List.length_cons]; omega
theorem sizeL_40 (l : List fY) : l.length * 40 ≤ sizeL l := by
  unfold sizeL sumT
  rw [List.take_length]
  induction l with
  | nil => exact Nat.le_refl _
  | cons a l ih =>
    simp only [List.map_cons, List.sum_cons, List.length_cons]
    have : 40 ≤ sizeR a := by unfold sizeR; omega
    omega
theorem packM_len {m : PMess} {o : List UInt8} (hp : Pkb m) (h : packM m = some o) : o.length ≤ 4294967296 := by
  obtain ⟨⟨a, b, c, d⟩, _, _, hs⟩ := hp
  unfold packM at h
  obtain ⟨w4, k4, rfl⟩ := Option.map_eq_some_iff.1 h
  obtain ⟨w3, k3, g4⟩ := Option.bind_eq_some_iff.1 k4
  obtain ⟨w2, k2, g3⟩ := Option.bind_eq_some_iff.1 k3
  obtain ⟨w1, g1, g2⟩ := Option.bind_eq_some_iff.1 k2
  have e1 := asksP_growL g1
  have e2 := recsP_growL g2
  have e3 := recsP_growL g3
  have e4 := recsP_growL g4
  have f2 := sizeL_40 m.answers
  have f3 := sizeL_40 m.authorities
  have f4 := sizeL_40 m.additionals
  have hh : (headP m).length = 12 := by simp [headP, be2]
  unfold sizeM at hs
  simp only [hh] at e1
  omega
end Go.Proofs.YtgpfjlfkaoffeaaGreatDoor
namespace Go.Proofs.YtgpfjlfkaoffeaaGreatDoor
open Go
theorem po_eqb {P : Program} {ρ : Env} {w : World} {T T' : TypeId} {x y : Operand} {b : Bool} (hU : P.underlying T = some .bool) (hx : ev ρ x = some (.bool b)) (hy : ev ρ y = some (.bool b)) : PO P (.binOp .eql T x y T') ρ w (.bool true) := by
 refine bin_gen hx hy (by simp [eqGuard]) ?_
 simp only [binOp]
 simp [Op.equal, Op.maxDepth, run_equalIn_bool' w 9999 T b b hU]
theorem po_neb {P : Program} {ρ : Env} {w : World} {T T' : TypeId} {x y : Operand} {b : Bool} (hU : P.underlying T = some .bool) (hx : ev ρ x = some (.bool b)) (hy : ev ρ y = some (.bool b)) : PO P (.binOp .neq T x y T') ρ w (.bool false) := by
 refine bin_gen hx hy (by simp [eqGuard]) ?_
 simp only [binOp]
 simp [Op.equal, Op.maxDepth, run_equalIn_bool' w 9999 T b b hU]
theorem same_unpack {l : List UInt8} {ok ok2 : Bool} {x x2 : PMsg} (h1 : (ok = true ∧ unpackM l = some x) ∨ (ok = false ∧ unpackM l = none ∧ x = {})) (h2 : (ok2 = true ∧ unpackM l = some x2) ∨ (ok2 = false ∧ unpackM l = none ∧ x2 = {})) :
  ok2 = ok ∧ x2 = x ∧ MsgRd x := by
 rcases h1 with ⟨rfl, e1⟩ | ⟨rfl, e1, rfl⟩
 rcases h2 with ⟨rfl, e2⟩ | ⟨rfl, e2, rfl⟩
 rw [e1] at e2; cases e2; exact ⟨rfl, rfl, unpackM_rd e1⟩
 rw [e1] at e2; cases e2
 rcases h2 with ⟨rfl, e2⟩ | ⟨rfl, e2, rfl⟩
 rw [e1] at e2; cases e2
 exact ⟨rfl, rfl, msgRd0⟩
theorem RecRd.few {r : fY} (h : RecRd r) : FewR r := by
 obtain ⟨_, b, c, _⟩ := h.small
 exact ⟨by omega, by omega⟩
theorem MsgRd.few {x : PMsg} (h : MsgRd x) : FewM x := by
 have := h.nq
 have := h.na
 have := h.nu
 have := h.nd
 exact ⟨by omega, ⟨by omega, fun r hr => (h.ans r hr).few⟩, ⟨by omega, fun r hr => (h.aut r hr).few⟩, ⟨by omega, fun r hr => (h.add r hr).few⟩⟩
section
variable {A : Nat → Addr} {V : Vw} {w0 : World} {l : List UInt8} {mv : Value}
set_option maxHeartbeats 4000000 in
theorem c_FnUnpackAgain (hG : Gl A V) (hV : V.In w0) (hb : RB V mv l) : eC Tryz.prog 5 #[mv] w0 (LawQ V w0) := by
 obtain ⟨a, cap, rfl, hca, _⟩ := hb.form
 have hs := St.start hV
 have hg : true = true := rfl
 refine aT [_] Tryz.func5 Tryz.ntmps5 Tryz.results5 rfl rfl (dP (dN rfl rfl (aH (aF (dP (dM rfl rfl (lp (bC Tryz.underlying23 rfl) rfl (lp (cQ rfl rfl) rfl (aH (bH rfl (fun hc0 => ?_) (fun hc0 => ?_)))))))))))
 refine dP (dN rfl rfl (aH (aV ⟨_, fW rfl, ?_⟩)))
 exact ⟨rfl, _, hs⟩
 refine aW (aF ?_)
 have h2l : l.length ≤ 4294967296 := by omega
 refine aB (dM rfl rfl (aZ ok_8 rfl rfl (c_unpack (hG.mono hs.view) hs.isIn hb h2l) rfl (fun v18 w HF => ?_)))
 obtain ⟨V1, m1, ok, x, rfl, hc, hR1, hu1⟩ := HF
 replace hs := hs.frame hc
 have hle1 := hc.view
 obtain ⟨q0, q1, q2, q3, rfl, hRq, hRa, hRu, hRd⟩ := hR1
 refine dM rfl rfl (dO rfl rfl rfl (dO rfl rfl rfl (aJ (aX hs z_36 rfl (fun b3 w hb3 he3 hs => aJ (dR 0 hs k_36 rfl rfl rfl (by rfl) rfl (fD (flat_headC _ _) (aG (by simp only [List.all_cons, List.all_nil, hRq.oneCell, hRa.oneCell, hRu.oneCell, hRd.oneCell]; rfl))) rfl (fun w hs => ?_)))))))
 have hrd : MsgRd x := by
  rcases hu1 with ⟨_, e⟩ | ⟨_, _, rfl⟩
  exact unpackM_rd e
  exact msgRd0
 have hKa := hRa.toK (fun r hr => ⟨(hrd.ans r hr).k1, (hrd.ans r hr).k13⟩)
 have hKu := hRu.toK (fun r hr => ⟨(hrd.aut r hr).k1, (hrd.aut r hr).k13⟩)
 have hKd := hRd.toK (fun r hr => ⟨(hrd.add r hr).k1, (hrd.add r hr).k13⟩)
 refine dN rfl rfl (aH (aF (dG (fun ρ w2 => ∃ (bad : Bool), Sub (eH (eH (eH emp 27 (.bool bad)) 3 (.pointer (some ⟨b3, 0, none⟩))) 0 (.slice a l.length cap)) ρ ∧ St ⟨w0, V, V1⟩ w2 [(b3, .cells (headC x.id x.bits ++ [q0, q1, q2, q3]).toArray 36 (0, 0))] ∧ (bad = false → ok = true ∧ Pkb (toMess x))) ?_ ?_)))
 rcases (by cases ok <;> simp : ok = false ∨ ok = true) with h | h <;> subst h
 refine aB (dM rfl rfl (lp (cS rfl) rfl (dM rfl rfl (aU rfl rfl rfl rfl (aU rfl rfl rfl rfl (aU rfl rfl rfl rfl (lp (bO rfl rfl rfl) rfl (aH ?_))))))))
 exact ⟨true, aL rfl (aL rfl (aL rfl (bG _))), hs, fun h => by cases h⟩
 refine aB (dM rfl rfl (lp (cS rfl) rfl (dM rfl rfl (lg rfl rfl rfl (aO rfl (aP k_36 (hs.g 0 rfl) rfl)) rfl (cX rfl rfl rfl (cF (cD rfl rfl ok_10 (n_Packable (m := toMess x) hs.isIn hRq hKa hKu hKd (sizeM_rd hrd))) rfl (fun vF w HF => ?_)))))))
 obtain ⟨rfl, hc⟩ := HF
 replace hs := hs.frame hc
 refine lg rfl rfl rfl (cS rfl) rfl (lp (bW rfl rfl rfl) rfl (aH ?_))
 exact ⟨_, aL rfl (aL rfl (aL rfl (bG _))), hs, fun h => ⟨rfl, by unfold Pkb; simpa using h⟩⟩
 clear hs
 rintro ρ w2 ⟨bad, hsub, hs, hbad⟩
 refine EW.weaken hsub (bJ rfl (fun hc1 => ?_) (fun hc1 => ?_))
 refine dP (aZ ok_7 rfl rfl (c_packs (hG.mono hs.view) hs.isIn) rfl (fun v28 w HF => ?_))
 obtain ⟨rfl, VP, hc⟩ := HF
 replace hs := hs.frame hc
 refine dN rfl rfl (aH (aV ⟨_, fW rfl, ?_⟩))
 exact ⟨rfl, _, hs.drop hb3⟩
 obtain ⟨rfl, hpk⟩ := hbad hc1
 have hmok := hrd.mok hpk
 have hmfit := hrd.mfit hpk
 refine aW (dP (lp (aO rfl (aP k_36 (hs.g 0 rfl) rfl)) rfl (aZ ok_6 rfl rfl (p_Pack (m := toMess x) (hG.mono hs.view) hs.isIn hRq hRa hRu hRd hmok) rfl (fun v31 w HF => ?_))))
 obtain ⟨V2, v2, fine, o, rfl, hc, hx2, hr2⟩ := HF
 replace hs := hs.frame hc
 have hle2 := hc.view
 refine dM rfl rfl (dO rfl rfl rfl (dO rfl rfl rfl (dN rfl rfl (dN rfl rfl (aH (dP (lp (aO rfl (aP k_36 (hs.g 0 rfl) rfl)) rfl (aZ ok_11 rfl rfl (n_Pack (m := toMess x) hs.isIn (hRq.mono hle2) (hKa.mono hle2) (hKu.mono hle2) (hKd.mono hle2) hmfit) rfl (fun v36 w HF => ?_)))))))))
 obtain ⟨v3, well, rfl, hr3⟩ := HF
 obtain ⟨V3, hle3, rfl, hc, hcase⟩ : ∃ V3, V2.le V3 ∧ well = fine ∧ St ⟨_, V2, V3⟩ w [] ∧ ((fine = true ∧ packM (toMess x) = some o ∧ RB V3 v3 o) ∨ fine = false) := by
  rcases hr3 with ⟨o3, h1, h2, h3⟩ | ⟨h1, h2, _, h3⟩
  obtain ⟨V3, hle, hsv, hst⟩ := h3.give
  rcases hr2 with ⟨h4, h5⟩ | ⟨_, _, h5⟩
  rw [h2] at h5; cases h5
  exact ⟨V3, hle, by rw [h1, h4], hst, .inl ⟨h4, h2, by simpa [RB] using hsv⟩⟩
  rw [h2] at h5; cases h5
  rcases hr2 with ⟨_, h5⟩ | ⟨h4, _, _⟩
  rw [h2] at h5; cases h5
  exact ⟨V2, Vw.le_refl _, by rw [h1, h4], h3, .inr h4⟩
 replace hs := hs.frame hc
 refine dM rfl rfl (dO rfl rfl rfl (dO rfl rfl rfl (dN rfl rfl (dN rfl rfl (aH (aF (aF ?_)))))))
 rcases (by cases well <;> simp : well = false ∨ well = true) with hw | hw <;> subst hw
 refine aB (dM rfl rfl (dM rfl rfl (lp (po_neb Tryz.underlying4 rfl rfl) rfl (dM rfl rfl (lg rfl rfl rfl (aC rfl) rfl (lg rfl rfl rfl (cS rfl) rfl (lp (bW rfl rfl rfl) rfl (aH (cO rfl rfl (dP (dM rfl rfl (dM rfl rfl (lp (po_eqb Tryz.underlying4 rfl rfl) rfl ?_)))))))))))))
 refine dM rfl rfl (cX rfl rfl hg (cF (cD rfl rfl ok_7 (c_packs (hG.mono hs.view) hs.isIn)) rfl (fun vP w HF => ?_)))
 obtain ⟨rfl, VP, hc⟩ := HF
 replace hs := hs.frame hc
 refine lp (bO rfl rfl rfl) rfl (dN rfl rfl (aH (aV ⟨_, fW rfl, ?_⟩)))
 exact ⟨rfl, _, hs.drop hb3⟩
 refine aB (dM rfl rfl (dM rfl rfl (lp (po_neb Tryz.underlying4 rfl rfl) rfl (dM rfl rfl (lg rfl rfl rfl (aC rfl) rfl (lg rfl rfl rfl (cS rfl) rfl (lp (bW rfl rfl rfl) rfl (aH (aY rfl rfl (aW (aF ?_)))))))))))
 obtain ⟨_, hpm, hx3⟩ := hcase.resolve_right (fun h => by cases h)
 have hol := packM_len hpk hpm
 refine aB (dM rfl rfl (aZ ok_8 rfl rfl (c_unpack (hG.mono hs.view) hs.isIn (hx2.mono hle3) hol) rfl (fun v54 w HF => ?_)))
 obtain ⟨V4, m4, ok4, x4, rfl, hc, hR4, hu4⟩ := HF
 replace hs := hs.frame hc
 have hle4 := hc.view
 refine dM rfl rfl (dO rfl rfl rfl (dO rfl rfl rfl (aJ (aX hs z_36 rfl (fun b9 w hb9 he9 hs => aJ (dR 0 hs k_36 rfl rfl rfl hR4.flat.2 rfl hR4.flat.1 rfl (fun w hs => dN rfl rfl (aH (dP (dM rfl rfl (aZ ok_12 rfl rfl (c_sunpack hs.isIn (hx3.mono hle4) hol) rfl (fun v59 w HF => ?_))))))))))))
 obtain ⟨V5, m5, ok5, x5, rfl, hc, hR5, hu5⟩ := HF
 replace hs := hs.frame hc
 have hle5 := hc.view
 obtain ⟨rfl, rfl, hrd5⟩ := same_unpack hu4 hu5
 refine dM rfl rfl (dO rfl rfl rfl (dO rfl rfl rfl (aJ (aX hs z_36 rfl (fun b11 w hb11 he11 hs => aJ (dR 0 hs k_36 rfl rfl rfl hR5.flat.2 rfl hR5.flat.1 rfl (fun w hs => dN rfl rfl (aH (dP (dM rfl rfl (dM rfl rfl (lp (po_eqb Tryz.underlying4 rfl rfl) rfl (dM rfl rfl (lg rfl rfl hg (aO rfl (aP k_36 (hs.g 1 rfl) hR4.flat.2)) rfl (lg rfl rfl hg (aO rfl (aP k_36 (hs.g 0 rfl) hR5.flat.2)) rfl ?_)))))))))))))))
 refine cX rfl rfl hg (cF (cD rfl rfl ok_13 (c_SameMessage hs.isIn (hR4.mono hle5) hR5 hrd5.few)) rfl (fun v26 w HF => ?_))
 obtain ⟨rfl, hc⟩ := HF
 replace hs := hs.frame hc
 refine lp (bO rfl rfl rfl) rfl (dM rfl rfl (cX rfl rfl hg (cF (cD rfl rfl ok_7 (c_packs (hG.mono hs.view) hs.isIn)) rfl (fun v29 w HF => ?_))))
 obtain ⟨rfl, VP, hc⟩ := HF
 replace hs := hs.frame hc
 refine lp (bO rfl rfl rfl) rfl (dN rfl rfl (aH (aV ⟨_, fW rfl, ?_⟩)))
 exact ⟨rfl, _, ((hs.drop hb11).drop hb9).drop hb3⟩
end
end Go.Proofs.YtgpfjlfkaoffeaaGreatDoor
namespace Go.Proofs.YtgpfjlfkaoffeaaGreatDoor
open Go
def allV (W : World) : Vw := fun b => W.heap[b]?
theorem allV_in (W : World) : (allV W).In W := fun _ _ h => h
theorem St.below {W W' : World} {V V' : Vw} (h : St ⟨W, V, V'⟩ W' []) : Go.RowKit.Below W.heap.size W W' :=
 ⟨h.os, h.tape, h.output, h.size, fun k hk => h.old k hk (fun x hx => by cases hx)⟩
theorem allV_cell {W : World} {b q : Nat} {u : Value} (h : W.cell? ⟨b, q, none⟩ = some u) : (allV W).cell b q = some u := by
 unfold World.cell? at h
 unfold Vw.cell allV
 split at h
 rename_i cs t fz hb
 simp only at hb
 rw [hb]
 simpa using h
 cases h
def sent (x : String × List UInt8) : String × DataW Unit := (x.1, .iface "*errors.errorString" (.ptr (.agg [.lit (.string x.2)])))
theorem laid_app {P : Program} {W : World} {tp ti te ts : TypeId} {ms : Array (String × TypeId)} {f : Field}
  (hi : P.underlying ti = some (.interface ms)) (hrow : ∀ u, P.typeName? 3 u = some "*errors.errorString" → u = tp) (hp : P.underlying tp = some (.pointer te)) (he : P.underlying te = some (.struct #[f])) (hft : f.type = ts) (hfo : f.offset = 0) (hs : P.underlying ts = some .string) (hc : P.cellsOf te = 1) (hcs : P.cellsOf ts = 1) (r : List (String × DataW Unit)) :
  ∀ (S : List (String × List UInt8)) (gs : List Nat) (ps : List MemPlace), S.map (fun x => P.globalNamed x.1) = gs.map some → (∀ g ∈ gs, (P.globals[g]?).map (·.type) = some ti) → DataW.LaidVars P W (S.map sent ++ r) ps → ps.Nodup →
   (∀ b off, MemPlace.cell b off ∈ ps → (∃ c t, W.heap[b]? = some (.cells c t (0, 0))) ∧ ∀ u v, W.cell? ⟨b, off, none⟩ = some (.iface u v) → Value.okWide P W .any 0 u v) →
   ∃ al : List Addr, al.length = gs.length ∧ (∀ (i : Nat) (g : Nat) (a : Addr), gs[i]? = some g → al[i]? = some a → W.cell? ⟨g, 0, none⟩ = some (.iface tp (.pointer (some a)))) ∧
    (∀ a ∈ al, MemPlace.cell a.block a.off ∈ ps) ∧ (al.map fun a => MemPlace.cell a.block a.off).Nodup ∧ ∃ q, DataW.LaidVars P W r q ∧ q.Sublist ps
 | [], gs, ps, hg, _, h, _, _ => by
  have : gs = [] := by cases gs <;> simp_all
  subst this
  exact ⟨[], rfl, fun i g a hx _ => by simp at hx, fun a hx => (by cases hx), by simp, ps, h, List.Sublist.refl _⟩
 | x :: S, [], ps, hg, _, _, _, _ => by simp at hg
 | x :: S, g :: gs, ps, hg, hgt, h, hnd, hrows => by
  simp only [List.map_cons, List.cons.injEq] at hg
  obtain ⟨g0, t0, cs0, f0, p0, q0, hg0, ht0, hv0, hd0, hr, e0⟩ := h
  obtain rfl : g = g0 := Option.some.inj (hg.1.symm.trans hg0)
  obtain rfl := Option.some.inj ((hgt g (by simp)).symm.trans ht0)
  subst e0
  obtain ⟨l0⟩ := cs0
  have ok0 : ∀ u v, l0 = [.iface u v] → Value.okWide P W .any 0 u v := fun u v e => by
   subst e
   exact (hrows g 0 (by simp [MemPlace.row])).2 u v (by simpa using World.var?_cell hg0 hv0 0)
  obtain ⟨a0, s0, rfl, hc0, hs0, hz0, rfl⟩ := errorString_of_trod hi hrow hp he hft hfo hs hc hcs hd0 ok0
  have hq : q0.Sublist (MemPlace.row ⟨g, 0, none⟩ 1 ++ MemPlace.row a0 1 ++ q0) := List.sublist_append_right _ _
  obtain ⟨al, h1, h2, h3, h4, q, h5, h6⟩ := laid_app hi hrow hp he hft hfo hs hc hcs r S gs q0 hg.2 (fun g hgm => hgt g (by simp [hgm])) hr (List.Nodup.sublist hq hnd) (fun b off hm => hrows b off (hq.subset hm))
  refine ⟨a0 :: al, by simp [h1], ?_, ?_, ?_, q, h5, h6.trans hq⟩
  intro i g' a hg' ha
  cases i with
  | zero =>
   simp at hg' ha
   subst hg' ha
   simpa using World.var?_cell hg0 hv0 0
  | succ i => exact h2 i g' a (by simpa using hg') (by simpa using ha)
  intro a ha
  rcases List.mem_cons.1 ha with rfl | ha
  simp [MemPlace.row]
  exact hq.subset (h3 a ha)
  simp only [List.map_cons, List.nodup_cons]
  refine ⟨fun hm => ?_, h4⟩
  obtain ⟨a, ha, e⟩ := List.mem_map.1 hm
  have hin := h3 a ha
  rw [e] at hin
  have hn2 := hnd
  rw [List.append_assoc] at hn2
  have := (List.nodup_append.1 (List.nodup_append.1 hn2).2.1).2.2 (MemPlace.cell a0.block a0.off) (by simp [MemPlace.row]) _ hin
  exact this rfl
end Go.Proofs.YtgpfjlfkaoffeaaGreatDoor
namespace Go.Proofs.YtgpfjlfkaoffeaaGreatDoor
open Go
theorem findNow_u8 : ∀ (es : List MapEntry) (i : Nat) (k : Int), (∀ x ∈ es, (∃ n : Int, x.key = .int .u8 n) ∧ ∃ s : ByteArray, x.val = .string s ∧ s.size ≤ 100) →
  ∃ r, Instr.findNow (.int .u8) (.int .u8 k) es i = some r ∧ ∀ j v, r = some (j, v) → ∃ s : ByteArray, v = .string s ∧ s.size ≤ 100
 | [], i, k, _ => ⟨none, rfl, fun j v h => by cases h⟩
 | e :: es, i, k, h => by
  obtain ⟨⟨n, hn⟩, s, hs, hz⟩ := h e (by simp)
  unfold Instr.findNow
  rw [hn]
  simp only [Instr.sameNow, if_true]
  cases hk : (k == n)
  exact findNow_u8 es (i + 1) k (fun x hx => h x (by simp [hx]))
  exact ⟨_, rfl, fun j v hr => by cases hr; exact ⟨s, hs, hz⟩⟩
theorem laid_map {P : Program} {W : World} {t k e : TypeId} {fuel : Nat} {cs : List Value} {entries : List (Lit × DataW Unit)} {p : List MemPlace} {sp : Nat → Bool} (ht : P.underlying t = some (.map k e)) (hk : P.underlying k = some (.int .u8)) (he : P.underlying e = some .string)
  (h : DataW.trod (fun _ => ()) P W 0 sp false fuel t cs = some (.map entries, p)) (hb : ∀ x ∈ entries, ∃ bs : List UInt8, x.2 = .lit (.string bs) ∧ bs.length ≤ 100) :
  ∃ m es c, cs = [.map (some m)] ∧ W.heap[m]? = some (.map es c) ∧ ∀ x ∈ es.toList, (∃ n : Int, x.key = .int .u8 n) ∧ ∃ s : ByteArray, x.val = .string s ∧ s.size ≤ 100 := by
 rcases Go.WideElems.open_map ht h with ⟨_, hx⟩ | ⟨b, es, clock, n, rfl, rfl, hm, _, F, hx⟩
 cases hx
 refine ⟨b, es, clock, rfl, hm, fun x hxm => ?_⟩
 obtain ⟨y, hy⟩ := F.reads x hxm
 have hent : entries = (es.toList.map (Go.WideElems.rg P k (Go.WideElems.elemAt (fun _ => ()) P W 0 sp false n e))).foldr DataW.insert [] := by
  have := congrArg Prod.fst hx
  simpa using this
 have hmem : y ∈ entries := by
  rw [hent, (Go.WideShapes.sorted_perm _).mem_iff]
  exact List.mem_map.2 ⟨x, hxm, by unfold Go.WideElems.rg; rw [hy]; rfl⟩
 obtain ⟨bs, hbs, hlen⟩ := hb y hmem
 unfold Go.WideElems.rd at hy
 obtain ⟨key, hkey, hy⟩ := Option.bind_eq_some_iff.1 hy
 obtain ⟨z, hz, rfl⟩ := Option.map_eq_some_iff.1 hy
 simp only at hbs
 constructor
 unfold keyOf at hkey
 rw [hk] at hkey
 unfold mapKey at hkey
 rw [hk] at hkey
 cases hx2 : x.key <;> rw [hx2] at hkey <;> simp at hkey
 obtain ⟨⟨rfl, _⟩, _⟩ := hkey
 exact ⟨_, rfl⟩
 unfold Go.WideElems.elemAt at hz
 split at hz
 rename_i hfm
 obtain ⟨s, hcs, rfl, _⟩ := DataW.trod_string he hz
 refine ⟨s, ?_, ?_⟩
 cases hv : x.val <;> rw [hv] at hcs hfm <;> simp only [Value.cells, List.cons.injEq, and_true] at hcs <;> first | exact hcs | (exfalso; revert hfm; unfold Value.formed; rw [he]; simp)
 have e : s.data.toList = bs := by injection hbs with e1; injection e1
 show s.data.size ≤ 100
 rw [← Array.length_toList, e]
 exact hlen
 cases hz
end Go.Proofs.YtgpfjlfkaoffeaaGreatDoor
namespace Go.Proofs.YtgpfjlfkaoffeaaGreatDoor
open Go Go.Proofs.YtgpfjlfkaoffeaaGreatDoor
def laidS : List (String × List UInt8) := [("loop.example/pub-domainbytes/pub/dnsmessage.ErrNotStarted", [112, 97, 114, 115, 105, 110, 103, 47, 112, 97, 99, 107, 105, 110, 103, 32, 111, 102, 32, 116, 104, 105, 115, 32, 116, 121, 112, 101, 32, 105, 115, 110, 39, 116, 32, 97, 118, 97, 105, 108, 97, 98, 108, 101, 32, 121, 101, 116]), ("loop.example/pub-domainbytes/pub/dnsmessage.ErrSectionDone", [112, 97, 114, 115, 105, 110, 103, 47, 112, 97, 99, 107, 105, 110, 103, 32, 111, 102, 32, 116, 104, 105, 115, 32, 115, 101, 99, 116, 105, 111, 110, 32, 104, 97, 115, 32, 99, 111, 109, 112, 108, 101, 116, 101, 100]), ("loop.example/pub-domainbytes/pub/dnsmessage.errBaseLen", [105, 110, 115, 117, 102, 102, 105, 99, 105, 101, 110, 116, 32, 100, 97, 116, 97, 32, 102, 111, 114, 32, 98, 97, 115, 101, 32, 108, 101, 110, 103, 116, 104, 32, 116, 121, 112, 101]), ("loop.example/pub-domainbytes/pub/dnsmessage.errCalcLen", [105, 110, 115, 117, 102, 102, 105, 99, 105, 101, 110, 116, 32, 100, 97, 116, 97, 32, 102, 111, 114, 32, 99, 97, 108, 99, 117, 108, 97, 116, 101, 100, 32, 108, 101, 110, 103, 116, 104, 32, 116, 121, 112, 101]), ("loop.example/pub-domainbytes/pub/dnsmessage.errReserved", [115, 101, 103, 109, 101, 110, 116, 32, 112, 114, 101, 102, 105, 120, 32, 105, 115, 32, 114, 101, 115, 101, 114, 118, 101, 100]), ("loop.example/pub-domainbytes/pub/dnsmessage.errTooManyPtr", [116, 111, 111, 32, 109, 97, 110, 121, 32, 112, 111, 105, 110, 116, 101, 114, 115, 32, 40, 62, 49, 48, 41]), ("loop.example/pub-domainbytes/pub/dnsmessage.errInvalidPtr", [105, 110, 118, 97, 108, 105, 100, 32, 112, 111, 105, 110, 116, 101, 114]), ("loop.example/pub-domainbytes/pub/dnsmessage.errInvalidName", [105, 110, 118, 97, 108, 105, 100, 32, 100, 110, 115, 32, 110, 97, 109, 101]), ("loop.example/pub-domainbytes/pub/dnsmessage.errNilResouceBody", [110, 105, 108, 32, 114, 101, 115, 111, 117, 114, 99, 101, 32, 98, 111, 100, 121]), ("loop.example/pub-domainbytes/pub/dnsmessage.errResourceLen", [105, 110, 115, 117, 102, 102, 105, 99, 105, 101, 110, 116, 32, 100, 97, 116, 97, 32, 102, 111, 114, 32, 114, 101, 115, 111, 117, 114, 99, 101, 32, 98, 111, 100, 121, 32, 108, 101, 110, 103, 116, 104]), ("loop.example/pub-domainbytes/pub/dnsmessage.errSegTooLong", [115, 101, 103, 109, 101, 110, 116, 32, 108, 101, 110, 103, 116, 104, 32, 116, 111, 111, 32, 108, 111, 110, 103]), ("loop.example/pub-domainbytes/pub/dnsmessage.errNameTooLong", [110, 97, 109, 101, 32, 116, 111, 111, 32, 108, 111, 110, 103]), ("loop.example/pub-domainbytes/pub/dnsmessage.errZeroSegLen", [122, 101, 114, 111, 32, 108, 101, 110, 103, 116, 104, 32, 115, 101, 103, 109, 101, 110, 116]), ("loop.example/pub-domainbytes/pub/dnsmessage.errResTooLong", [114, 101, 115, 111, 117, 114, 99, 101, 32, 108, 101, 110, 103, 116, 104, 32, 116, 111, 111, 32, 108, 111, 110, 103]), ("loop.example/pub-domainbytes/pub/dnsmessage.errTooManyQuestions", [116, 111, 111, 32, 109, 97, 110, 121, 32, 81, 117, 101, 115, 116, 105, 111, 110, 115, 32, 116, 111, 32, 112, 97, 99, 107, 32, 40, 62, 54, 53, 53, 51, 53, 41]), ("loop.example/pub-domainbytes/pub/dnsmessage.errTooManyAnswers", [116, 111, 111, 32, 109, 97, 110, 121, 32, 65, 110, 115, 119, 101, 114, 115, 32, 116, 111, 32, 112, 97, 99, 107, 32, 40, 62, 54, 53, 53, 51, 53, 41]), ("loop.example/pub-domainbytes/pub/dnsmessage.errTooManyAuthorities", [116, 111, 111, 32, 109, 97, 110, 121, 32, 65, 117, 116, 104, 111, 114, 105, 116, 105, 101, 115, 32, 116, 111, 32, 112, 97, 99, 107, 32, 40, 62, 54, 53, 53, 51, 53, 41]), ("loop.example/pub-domainbytes/pub/dnsmessage.errTooManyAdditionals", [116, 111, 111, 32, 109, 97, 110, 121, 32, 65, 100, 100, 105, 116, 105, 111, 110, 97, 108, 115, 32, 116, 111, 32, 112, 97, 99, 107, 32, 40, 62, 54, 53, 53, 51, 53, 41]), ("loop.example/pub-domainbytes/pub/dnsmessage.errNonCanonicalName", [110, 97, 109, 101, 32, 105, 115, 32, 110, 111, 116, 32, 105, 110, 32, 99, 97, 110, 111, 110, 105, 99, 97, 108, 32, 102, 111, 114, 109, 97, 116, 32, 40, 105, 116, 32, 109, 117, 115, 116, 32, 101, 110, 100, 32, 119, 105, 116, 104, 32, 97, 32, 46, 41]), ("loop.example/pub-domainbytes/pub/dnsmessage.errParamOutOfOrder", [112, 97, 114, 97, 109, 101, 116, 101, 114, 32, 111, 117, 116, 32, 111, 102, 32, 111, 114, 100, 101, 114])]
def laidG : List Nat := [4, 5, 12, 13, 17, 16, 15, 14, 6, 19, 9, 7, 10, 11, 0, 1, 2, 3, 8, 20]
theorem laid_is : Rows.fnParamsOrderRow.laid = laidS.map sent ++ [("loop.example/pub-domainbytes/pub/dnsmessage.sectionNames", Rows.laid_loop_example_pub_domainbytes_pub_dnsmessage_sectionNames)] := rfl
theorem laidS_names : laidS.map (fun x => Tryz.prog.globalNamed x.1) = laidG.map some := by kernel_rfl
theorem laidG_types : ∀ g ∈ laidG, (Tryz.prog.globals[g]?).map (·.type) = some 57 := by
 have h : laidG.all (fun g => (Tryz.prog.globals[g]?).map (·.type) == some 57) = true := by kernel_rfl
 intro g hg
 simpa using List.all_eq_true.1 h g hg
theorem errGs_in : ∀ g, errGs.contains g = true → ∃ i : Nat, laidG[i]? = some g := by
 have h : errGs.all (fun g => laidG.contains g) = true := by decide
 intro g hg
 have h2 := List.all_eq_true.1 h g (by simpa using hg)
 have h3 : g ∈ laidG := by simpa using h2
 obtain ⟨i, hi, e⟩ := List.getElem_of_mem h3
 exact ⟨i, by rw [List.getElem?_eq_getElem hi, e]⟩
theorem star : "*" ++ "errors.errorString" = "*errors.errorString" := by decide
theorem rowErr (u : TypeId) (h : Tryz.prog.typeName? 3 u = some "*errors.errorString") : u = 347 :=
 typeName_ptr_named (nm := "errors.errorString") (by rw [star]; kernel_rfl) (by kernel_rfl) (by decide) u (by rw [star]; exact h)
theorem cellsE : Tryz.prog.cellsOf 365 = 1 := by kernel_rfl
theorem cellsStr : Tryz.prog.cellsOf 9 = 1 := by kernel_rfl
theorem lawSec : Tryz.prog.globalNamed "loop.example/pub-domainbytes/pub/dnsmessage.sectionNames" = some 18 := by kernel_rfl
theorem lawSecT : (Tryz.prog.globals[18]?).map (·.type) = some 336 := by kernel_rfl
noncomputable def addrAt (W : World) (g : Nat) : Addr := match W.cell? ⟨g, 0, none⟩ with
 | some (.iface _ (.pointer (some a))) => a
 | _ => ⟨0, 0, none⟩
theorem laidMet_of {W : World} (h : laidMetH Tryz.prog Rows.fnParamsOrderRow.laid W) : laidMet Tryz.prog Rows.fnParamsOrderRow.laid W := by
 unfold laidMetH at h
 rw [show (Rows.fnParamsOrderRow.laid.filter fun x => x.2.handleName?.isSome) = [] from by kernel_rfl] at h
 exact h
theorem gl_of_laid {W : World} (h : laidMetH Tryz.prog Rows.fnParamsOrderRow.laid W) : Gl (addrAt W) (allV W) := by
 obtain ⟨ps, hl, hnd, hrows⟩ := laidMet_of h
 rw [laid_is] at hl
 obtain ⟨al, hal, h1, h2, h3, q, hq, hsub⟩ := laid_app Tryz.underlying57 rowErr Tryz.underlying347 Tryz.underlying365 rfl rfl Tryz.underlying9 cellsE cellsStr _ laidS laidG ps laidS_names laidG_types hl hnd hrows
 have hA : ∀ (i g : Nat) (a : Addr), laidG[i]? = some g → al[i]? = some a → addrAt W g = a := fun i g a hg ha => by
  unfold addrAt; rw [h1 i g a hg ha]
 have hex : ∀ g, errGs.contains g = true → ∃ (i : Nat) (a : Addr), laidG[i]? = some g ∧ al[i]? = some a ∧ addrAt W g = a := fun g hg => by
  obtain ⟨i, hi⟩ := errGs_in g hg
  have hlt : i < al.length := by
   rw [hal]
   rcases Nat.lt_or_ge i laidG.length with h' | h'
   exact h'
   rw [List.getElem?_eq_none h'] at hi; cases hi
  exact ⟨i, al[i], hi, List.getElem?_eq_getElem hlt, hA i g _ hi (List.getElem?_eq_getElem hlt)⟩
 refine ⟨fun g hg => ?_, fun g hg => ?_, fun g g' hg hg' e => ?_, ?_⟩
 obtain ⟨i, a, hi, ha, rfl⟩ := hex g hg
 exact allV_cell (h1 i g _ hi ha)
 obtain ⟨i, a, hi, ha, rfl⟩ := hex g hg
 obtain ⟨c, t, hb⟩ := (hrows _ _ (h2 _ (List.mem_of_getElem? ha))).1
 exact ⟨c, t, hb⟩
 obtain ⟨i, a, hi, ha, rfl⟩ := hex g hg
 obtain ⟨j, a', hj, ha', rfl⟩ := hex g' hg'
 rw [← e] at ha'
 obtain ⟨hil, ei⟩ := List.getElem?_eq_some_iff.1 ha
 have hij : i = j := (List.getElem?_inj (by simpa using hil) h3).1 (by rw [List.getElem?_map, List.getElem?_map, ha, ha'])
 subst hij
 rw [hi] at hj; cases hj; rfl
 obtain ⟨g, t, cs, fuel, p, q', hg, ht, hv, hd, _, _⟩ := hq
 obtain rfl := Option.some.inj (lawSec.symm.trans hg)
 obtain rfl := Option.some.inj (lawSecT.symm.trans ht)
 obtain ⟨m, es, c, hcs, hm, hes⟩ := laid_map Tryz.underlying336 Tryz.underlying98 Tryz.underlying9 hd (by
  intro x hx
  simp only [List.mem_cons, List.not_mem_nil, or_false] at hx
  rcases hx with rfl | rfl | rfl | rfl | rfl <;> exact ⟨_, rfl, by decide⟩)
 refine ⟨m, es, c, allV_cell ?_, hm, fun k => findNow_u8 es.toList 0 k hes⟩
 obtain ⟨l0⟩ := cs
 simp only at hcs
 subst hcs
 simpa using World.var?_cell hg hv 0
end Go.Proofs.YtgpfjlfkaoffeaaGreatDoor

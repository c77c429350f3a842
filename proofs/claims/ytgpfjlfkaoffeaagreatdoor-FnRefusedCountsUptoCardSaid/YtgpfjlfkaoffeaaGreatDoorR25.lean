/- A packed message with one more counted in its last section is refused. A packed message of which one count's low byte is one more, those behind being 0, is refused. The bits of a head, set in any order (the reference ranges over a map). The reference's machine in memory. The reference: numbers, bytes, names passed over, kinds, the header. What the row's list gives: the package's variables as the walks want them; what the walks leave, for the row. The map that is laid. What the row lists, for the walks. Made by a program of this claim (genW3.py). An argument of bytes, of numbers. How many variables a row names. -/
import Derived.Test.YtgpfjlfkaoffeaaGreatDoorR24
import Derived.Test.YtgpfjlfkaoffeaaGreatDoorR06
import Derived.Test.YtgpfjlfkaoffeaaGreatDoorR21
import Derived.Test.YtgpfjlfkaoffeaaGreatDoorR10
import Derived.Carry
import Derived.OpenVars
import Derived.LaidLaws
import Derived.LaidSub
import GoSem.ClaimJoined
import Derived.WideKeyElems2
import Derived.Test.YtgpfjlfkaoffeaaGreatDoorRows
import Derived.ChangeSlices
import Derived.OpenShut
import Derived.RowKit
set_option linter.all false
namespace Go.Proofs.YtgpfjlfkaoffeaaGreatDoor
open Go
theorem ask_end {r a : PAsk} {w w3 : Ink} {b : List UInt8} {e : Nat} (ht : Pl w.tbl) (h : askP r w = some w3) (hb : On b w.out.length w3.out) (hh : ask b w.out.length = some (a, e)) : e = w3.out.length := by
  obtain ⟨w1, h1, h2, _⟩ := askP_form h
  unfold ask at hh
  obtain ⟨⟨nm, e1⟩, g1, hh⟩ := Option.bind_eq_some_iff.1 hh
  obtain ⟨t, g2, hh⟩ := Option.bind_eq_some_iff.1 hh
  obtain ⟨c, g3, hh⟩ := Option.map_eq_some_iff.1 hh
  have he1 : e1 = w1.out.length := nameP_end ht h1 (h2 ▸ hb).pre g1
  cases hh
  rw [h2]
  simp only [List.length_append]
  rw [he1]; rfl
theorem askM_end {b : List UInt8} {r : PAsk} {w w3 : Ink} (ht : Pl w.tbl) (h : askP r w = some w3) (hb : On b w.out.length w3.out) {m : PM} (h1 : m.sec = 1) (h2 : m.valid = false) (h3 : m.index ≠ count b 1) (h4 : m.at_ = w.out.length) :
    (∃ mm, askM b m = (.other, none, mm)) ∨ ∃ R mm, askM b m = (.ok, some R, mm) ∧ mm.sec = 1 ∧ mm.valid = false ∧ mm.index = m.index + 1 ∧ mm.at_ = w3.out.length := by
  obtain ⟨sec, index, at_, valid, ha, hty, hln⟩ := m
  simp only at h1 h2 h3 h4
  subst h1 h2 h4
  have hadv : fH b { sec := 1, index := index, at_ := w.out.length, headAt := ha, htype := hty, hlen := hln } 1 = (.ok, { sec := 1, index := index, at_ := w.out.length, headAt := ha, htype := hty, hlen := hln }) := by
    unfold fH
    rw [if_neg (Nat.lt_irrefl _), if_neg (Nat.lt_irrefl _), if_neg h3]
  unfold askM
  simp only [hadv]
  cases hh : ask b w.out.length with
  | none => exact .inl ⟨_, rfl⟩
  | some re =>
    obtain ⟨hr, e⟩ := re
    exact .inr ⟨_, _, rfl, rfl, rfl, rfl, ask_end ht h hb hh⟩
theorem allAsks_end {b : List UInt8} : ∀ (l : List PAsk) (w w2 : Ink) (m : PM) (acc : List PAsk) (n : Nat), Pl w.tbl → asksP l w = some w2 → On b w.out.length w2.out → m.sec = 1 → m.valid = false → m.at_ = w.out.length → m.index + l.length ≤ count b 1 → l.length ≤ n →
    (∃ mm, fQ b n m acc = (.other, [], mm)) ∨ ∃ m2 acc2, fQ b n m acc = fQ b (n - l.length) m2 acc2 ∧ m2.sec = 1 ∧ m2.valid = false ∧ m2.at_ = w2.out.length ∧ m2.index = m.index + l.length
  | [], w, w2, m, acc, n, _, h, _, h1, h2, h3, _, _ => by cases h; exact .inr ⟨m, acc, rfl, h1, h2, h3, rfl⟩
  | r :: l, w, w2, m, acc, n, ht, h, hb, h1, h2, h3, h4, h5 => by
    obtain ⟨w3, g1, g2⟩ := Option.bind_eq_some_iff.1 h
    obtain ⟨x, hx⟩ := asksP_ext g2
    obtain ⟨w1, n1, n2, hbd⟩ := askP_form g1
    obtain ⟨y, hy⟩ := nameP_ext n1
    rw [List.length_cons] at h4 h5
    obtain ⟨k, rfl⟩ : ∃ k, n = k + 1 := ⟨n - 1, by omega⟩
    rw [fQ]
    rcases askM_end ht g1 (hx ▸ hb).pre h1 h2 (by omega) h3 with ⟨mm, he⟩ | ⟨R, mm, he, e1, e2, e3, e4⟩
    · rw [he]; exact .inl ⟨_, rfl⟩
    · rw [he]
      simp only
      rcases allAsks_end l w3 w2 mm (acc ++ [R]) k (hbd ht) g2 (hb.from (by rw [n2, hy]; simp)) e1 e2 e4 (by omega) (by omega) with ⟨m3, hm⟩ | ⟨m2, acc2, hm, f1, f2, f3, f4⟩
      · exact .inl ⟨m3, hm⟩
      · exact .inr ⟨m2, acc2, by rw [hm, List.length_cons, Nat.add_sub_add_right], f1, f2, f3, by rw [f4, e3, List.length_cons]; omega⟩
theorem allAsks_done {b : List UInt8} {n : Nat} {m : PM} {acc : List PAsk} (h1 : m.sec = 1) (h2 : m.valid = false) (h3 : m.index = count b 1) (hn : 0 < n) : ∃ mm, fQ b n m acc = (.ok, acc, mm) ∧ mm.sec = 2 ∧ mm.valid = false ∧ mm.index = 0 ∧ mm.at_ = m.at_ := by
  obtain ⟨sec, index, at_, valid, ha, hty, hln⟩ := m
  simp only at h1 h2 h3
  subst h1 h2 h3
  obtain ⟨k, rfl⟩ : ∃ k, n = k + 1 := ⟨n - 1, by omega⟩
  have hadv : fH b { sec := 1, index := count b 1, at_ := at_, headAt := ha, htype := hty, hlen := hln } 1 = (.done, { sec := 2, index := 0, at_ := at_, headAt := ha, htype := hty, hlen := hln }) := by
    unfold fH
    rw [if_neg (Nat.lt_irrefl _), if_neg (Nat.lt_irrefl _), if_pos rfl]
  rw [fQ]
  unfold askM
  simp only [hadv]
  exact ⟨_, rfl, rfl, rfl, rfl, rfl⟩
theorem allAsks_over {b : List UInt8} {n : Nat} {m : PM} {acc : List PAsk} (h1 : m.sec = 1) (h2 : m.valid = false) (h3 : m.index ≠ count b 1) (h4 : b.length ≤ m.at_) (hn : 0 < n) : ∃ mm, fQ b n m acc = (.other, [], mm) := by
  obtain ⟨sec, index, at_, valid, ha, hty, hln⟩ := m
  simp only at h1 h2 h3 h4
  subst h1 h2
  obtain ⟨k, rfl⟩ : ∃ k, n = k + 1 := ⟨n - 1, by omega⟩
  have hadv : fH b { sec := 1, index := index, at_ := at_, headAt := ha, htype := hty, hlen := hln } 1 = (.ok, { sec := 1, index := index, at_ := at_, headAt := ha, htype := hty, hlen := hln }) := by
    unfold fH
    rw [if_neg (Nat.lt_irrefl _), if_neg (Nat.lt_irrefl _), if_neg h3]
  have hh : ask b at_ = none := by unfold ask; rw [name_over h4]; rfl
  rw [fQ]
  unfold askM
  simp only [hadv, hh]
  exact ⟨_, rfl⟩
theorem asks_sec {b : List UInt8} {l : List PAsk} {w w2 : Ink} {m : PM} (ht : Pl w.tbl) (h : asksP l w = some w2) (hb : On b w.out.length w2.out) (h1 : m.sec = 1) (h2 : m.valid = false) (h3 : m.at_ = w.out.length) (h0 : m.index = 0) (hn : l.length ≤ 65535) :
    (count b 1 = l.length → (∃ mm, fQ b fuel m [] = (.other, [], mm)) ∨ ∃ r mm, fQ b fuel m [] = (.ok, r, mm) ∧ mm.sec = 2 ∧ mm.valid = false ∧ mm.index = 0 ∧ mm.at_ = w2.out.length) ∧
    (count b 1 = l.length + 1 → b.length = w2.out.length → ∃ mm, fQ b fuel m [] = (.other, [], mm)) := by
  have hf : fuel = 65537 := rfl
  refine ⟨fun hc => ?_, fun hc hl => ?_⟩
  · rcases allAsks_end l w w2 m [] fuel ht h hb h1 h2 h3 (by omega) (by omega) with h | ⟨m2, acc2, he, e1, e2, e3, e4⟩
    · exact .inl h
    · obtain ⟨mm, g1, g2, g3, g4, g5⟩ := allAsks_done (b := b) (n := fuel - l.length) (acc := acc2) e1 e2 (by omega) (by omega)
      exact .inr ⟨acc2, mm, by rw [he, g1], g2, g3, g4, by rw [g5, e3]⟩
  · rcases allAsks_end l w w2 m [] fuel ht h hb h1 h2 h3 (by omega) (by omega) with h | ⟨m2, acc2, he, e1, e2, e3, e4⟩
    · exact h
    · obtain ⟨mm, g1⟩ := allAsks_over (b := b) (n := fuel - l.length) (acc := acc2) e1 e2 (by omega) (by omega) (by omega)
      exact ⟨mm, by rw [he, g1]⟩
theorem recs_sec {b : List UInt8} {s : Nat} {l : List fY} {w w2 : Ink} {m : PM} (ht : Pl w.tbl) (h : recsP l w = some w2) (hb : On b w.out.length w2.out) (h1 : m.sec = s) (h2 : m.valid = false) (h3 : m.at_ = w.out.length) (h0 : m.index = 0) (hn : l.length ≤ 65535) :
    (count b s = l.length → (∃ mm, eR b s fuel m [] = (.other, [], mm)) ∨ ∃ r mm, eR b s fuel m [] = (.ok, r, mm) ∧ mm.sec = s + 1 ∧ mm.valid = false ∧ mm.index = 0 ∧ mm.at_ = w2.out.length) ∧
    (count b s = l.length + 1 → b.length = w2.out.length → ∃ mm, eR b s fuel m [] = (.other, [], mm)) := by
  have hf : fuel = 65537 := rfl
  refine ⟨fun hc => ?_, fun hc hl => ?_⟩
  · rcases allRecs_end l w w2 m [] fuel ht h hb h1 h2 h3 (by omega) (by omega) with h | ⟨m2, acc2, he, e1, e2, e3, e4⟩
    · exact .inl h
    · obtain ⟨mm, g1, g2, g3, g4, g5⟩ := allRecs_done (b := b) (n := fuel - l.length) (acc := acc2) e1 e2 (by omega) (by omega)
      exact .inr ⟨acc2, mm, by rw [he, g1], g2, g3, g4, by rw [g5, e3]⟩
  · rcases allRecs_end l w w2 m [] fuel ht h hb h1 h2 h3 (by omega) (by omega) with h | ⟨m2, acc2, he, e1, e2, e3, e4⟩
    · exact h
    · obtain ⟨mm, g1⟩ := allRecs_over (b := b) (n := fuel - l.length) (acc := acc2) e1 e2 (by omega) (by omega) (by omega)
      exact ⟨mm, by rw [he, g1]⟩
theorem refused {m : PMess} {o b : List UInt8} (h : packM m = some o) (hl : b.length = o.length) (hb : ∀ j, 12 ≤ j → eB b j = eB o j) (n1 : m.asks.length ≤ 65535) (n2 : m.answers.length ≤ 65535) (n3 : m.authorities.length ≤ 65535) (n4 : m.additionals.length ≤ 65535)
    (hq : (count b 1 = m.asks.length + 1 ∧ m.answers = [] ∧ m.authorities = [] ∧ m.additionals = []) ∨
      (count b 1 = m.asks.length ∧ ((count b 2 = m.answers.length + 1 ∧ m.authorities = [] ∧ m.additionals = []) ∨
        (count b 2 = m.answers.length ∧ ((count b 3 = m.authorities.length + 1 ∧ m.additionals = []) ∨
          (count b 3 = m.authorities.length ∧ count b 4 = m.additionals.length + 1)))))) : unpackM b = none := by
  unfold packM at h
  obtain ⟨w4, k4, rfl⟩ := Option.map_eq_some_iff.1 h
  obtain ⟨w3, k3, g4⟩ := Option.bind_eq_some_iff.1 k4
  obtain ⟨w2, k2, g3⟩ := Option.bind_eq_some_iff.1 k3
  obtain ⟨w1, g1, g2⟩ := Option.bind_eq_some_iff.1 k2
  have hh : (headP m).length = 12 := rfl
  obtain ⟨x1, e1⟩ := asksP_ext g1
  obtain ⟨x2, e2⟩ := recsP_ext g2
  obtain ⟨x3, e3⟩ := recsP_ext g3
  obtain ⟨x4, e4⟩ := recsP_ext g4
  have e1 : w1.out = headP m ++ x1 := e1
  have l1 : w1.out.length = 12 + x1.length := by rw [e1, List.length_append, hh]
  have l2 : w2.out.length = w1.out.length + x2.length := by rw [e2, List.length_append]
  have l3 : w3.out.length = w2.out.length + x3.length := by rw [e3, List.length_append]
  have l4 : w4.out.length = w3.out.length + x4.length := by rw [e4, List.length_append]
  have o4 : On b 12 w4.out := ⟨by omega, fun j h1 _ => hb j h1⟩
  have o3 : On b 12 w3.out := (e4 ▸ o4).pre
  have o2 : On b 12 w2.out := (e3 ▸ o3).pre
  have o1 : On b 12 w1.out := (e2 ▸ o2).pre
  have t0 : Pl ([] : List (List UInt8 × Nat)) := fun _ h => by cases h
  have t1 : Pl w1.tbl := asksP_bd (w := ⟨headP m, []⟩) t0 g1
  have t2 := recsP_bd t1 g2
  have t3 := recsP_bd t2 g3
  have s1 := asks_sec (b := b) (m := { sec := 1, at_ := 12 }) (w := ⟨headP m, []⟩) t0 g1 o1 rfl rfl rfl rfl n1
  rw [unpackM_eq]
  unfold unpackN
  rw [if_neg (by omega)]
  rcases hq with ⟨c1, ha, hu, hd⟩ | ⟨c1, hq⟩
  · rw [ha] at g2; cases g2
    rw [hu] at g3; cases g3
    rw [hd] at g4; cases g4
    obtain ⟨mm, hm⟩ := s1.2 c1 hl
    rw [hm]
  · rcases s1.1 c1 with ⟨mm, hm⟩ | ⟨r, mm, hm, f1, f2, f3, f4⟩
    · rw [hm]
    · rw [hm]
      simp only
      have s2 := recs_sec (b := b) (s := 2) t1 g2 (o2.from (by omega)) f1 f2 f4 f3 n2
      rcases hq with ⟨c2, hu, hd⟩ | ⟨c2, hq⟩
      · rw [hu] at g3; cases g3
        rw [hd] at g4; cases g4
        obtain ⟨m2, hm2⟩ := s2.2 c2 hl
        rw [hm2]
      · rcases s2.1 c2 with ⟨m2, hm2⟩ | ⟨r2, m2, hm2, f1, f2, f3, f4⟩
        · rw [hm2]
        · rw [hm2]
          simp only
          have s3 := recs_sec (b := b) (s := 3) t2 g3 (o3.from (by omega)) f1 f2 f4 f3 n3
          rcases hq with ⟨c3, hd⟩ | ⟨c3, c4⟩
          · rw [hd] at g4; cases g4
            obtain ⟨m3, hm3⟩ := s3.2 c3 hl
            rw [hm3]
          · rcases s3.1 c3 with ⟨m3, hm3⟩ | ⟨r3, m3, hm3, f1, f2, f3, f4⟩
            · rw [hm3]
            · rw [hm3]
              simp only
              have s4 := recs_sec (b := b) (s := 4) t3 g4 (o4.from (by omega)) f1 f2 f4 f3 n4
              obtain ⟨m4, hm4⟩ := s4.2 c4 hl
              rw [hm4]
end Go.Proofs.YtgpfjlfkaoffeaaGreatDoor
namespace Go.Proofs.YtgpfjlfkaoffeaaGreatDoor
open Go
theorem packM_head {m : PMess} {o : List UInt8} (h : packM m = some o) : ∃ t, o = headP m ++ t := by
  unfold packM at h
  obtain ⟨w4, k4, rfl⟩ := Option.map_eq_some_iff.1 h
  obtain ⟨w3, k3, g4⟩ := Option.bind_eq_some_iff.1 k4
  obtain ⟨w2, k2, g3⟩ := Option.bind_eq_some_iff.1 k3
  obtain ⟨w1, g1, g2⟩ := Option.bind_eq_some_iff.1 k2
  obtain ⟨x1, e1⟩ := asksP_ext g1
  obtain ⟨x2, e2⟩ := recsP_ext g2
  obtain ⟨x3, e3⟩ := recsP_ext g3
  obtain ⟨x4, e4⟩ := recsP_ext g4
  exact ⟨x1 ++ (x2 ++ (x3 ++ x4)), by rw [e4, e3, e2, e1]; simp only [List.append_assoc]⟩
theorem be_num {n : Nat} (h : n ≤ 65535) : (UInt8.ofNat (n / 256)).toNat * 256 + (UInt8.ofNat n).toNat = n := by
  rw [UInt8.toNat_ofNat', UInt8.toNat_ofNat']; omega
theorem refused_bytes {m : PMess} {o b : List UInt8} {q : Nat} (h : packM m = some o) (n1 : m.asks.length ≤ 65535) (n2 : m.answers.length ≤ 65535) (n3 : m.authorities.length ≤ 65535) (n4 : m.additionals.length ≤ 65535) (hq : q < 4)
    (hl : b.length = o.length) (hb : ∀ j, j ≠ 5 + 2 * q → eB b j = eB o j) (hb2 : eB b (5 + 2 * q) = eB o (5 + 2 * q) + 1) (hz : ∀ k, q < k → k < 4 → eB o (4 + 2 * k) = 0 ∧ eB o (5 + 2 * k) = 0) : unpackM b = none := by
  obtain ⟨t, ht⟩ := packM_head h
  have c1 : eB o 4 * 256 + eB o 5 = m.asks.length := by rw [ht]; exact be_num n1
  have c2 : eB o 6 * 256 + eB o 7 = m.answers.length := by rw [ht]; exact be_num n2
  have c3 : eB o 8 * 256 + eB o 9 = m.authorities.length := by rw [ht]; exact be_num n3
  have c4 : eB o 10 * 256 + eB o 11 = m.additionals.length := by rw [ht]; exact be_num n4
  have d1 : count b 1 = eB b 4 * 256 + eB b 5 := rfl
  have d2 : count b 2 = eB b 6 * 256 + eB b 7 := rfl
  have d3 : count b 3 = eB b 8 * 256 + eB b 9 := rfl
  have d4 : count b 4 = eB b 10 * 256 + eB b 11 := rfl
  have hnil : ∀ {α : Type} {l : List α}, l.length = 0 → l = [] := fun h => List.eq_nil_of_length_eq_zero h
  refine refused h hl (fun j hj => hb j (by omega)) n1 n2 n3 n4 ?_
  have hq4 : q = 0 ∨ q = 1 ∨ q = 2 ∨ q = 3 := by omega
  rcases hq4 with rfl | rfl | rfl | rfl
  · obtain ⟨z1, z2⟩ := hz 1 (by omega) (by omega)
    obtain ⟨z3, z4⟩ := hz 2 (by omega) (by omega)
    obtain ⟨z5, z6⟩ := hz 3 (by omega) (by omega)
    have b4 := hb 4 (by omega)
    simp only [Nat.reduceMul, Nat.reduceAdd] at z1 z2 z3 z4 z5 z6 hb2
    exact .inl ⟨by omega, hnil (by omega), hnil (by omega), hnil (by omega)⟩
  · obtain ⟨z3, z4⟩ := hz 2 (by omega) (by omega)
    obtain ⟨z5, z6⟩ := hz 3 (by omega) (by omega)
    have b4 := hb 4 (by omega); have b5 := hb 5 (by omega); have b6 := hb 6 (by omega)
    simp only [Nat.reduceMul, Nat.reduceAdd] at z3 z4 z5 z6 hb2
    exact .inr ⟨by omega, .inl ⟨by omega, hnil (by omega), hnil (by omega)⟩⟩
  · obtain ⟨z5, z6⟩ := hz 3 (by omega) (by omega)
    have b4 := hb 4 (by omega); have b5 := hb 5 (by omega); have b6 := hb 6 (by omega); have b7 := hb 7 (by omega); have b8 := hb 8 (by omega)
    simp only [Nat.reduceMul, Nat.reduceAdd] at z5 z6 hb2
    exact .inr ⟨by omega, .inr ⟨by omega, .inl ⟨by omega, hnil (by omega)⟩⟩⟩
  · have b4 := hb 4 (by omega); have b5 := hb 5 (by omega); have b6 := hb 6 (by omega); have b7 := hb 7 (by omega); have b8 := hb 8 (by omega); have b9 := hb 9 (by omega); have b10 := hb 10 (by omega)
    simp only [Nat.reduceMul, Nat.reduceAdd] at hb2
    exact .inr ⟨by omega, .inr ⟨by omega, .inr ⟨by omega, by omega⟩⟩⟩
end Go.Proofs.YtgpfjlfkaoffeaaGreatDoor
namespace Go.Proofs.YtgpfjlfkaoffeaaGreatDoor
open Go
def setB (l : List (Nat × Bool)) (n : Nat) : Nat := l.foldl (fun n e => if e.2 then n ||| 2 ^ e.1 else n) n
theorem setB_perm {l k : List (Nat × Bool)} (h : List.Perm l k) (n : Nat) : setB l n = setB k n := by
  unfold setB
  refine h.foldl_eq' (fun x _ y _ z => ?_) n
  cases x.2 <;> cases y.2 <;> simp
  rw [Nat.or_assoc, Nat.or_assoc, Nat.or_comm (2 ^ x.1)]
def headBits (h : PHead) : List (Nat × Bool) := [(15, h.response), (10, h.authority), (9, h.cut), (8, h.desired), (7, h.available), (5, h.authentic), (4, h.unchecked)]
theorem headBits_perm (h : PHead) : List.Perm (headBits h) [(7, h.available), (8, h.desired), (9, h.cut), (10, h.authority), (15, h.response), (5, h.authentic), (4, h.unchecked)] :=
  (List.reverse_perm [(15, h.response), (10, h.authority), (9, h.cut), (8, h.desired), (7, h.available)]).symm.append_right [(5, h.authentic), (4, h.unchecked)]
theorem setB_bits (h : PHead) {l : List (Nat × Bool)} (hl : List.Perm l (headBits h)) : setB l (h.op * 2048 ||| h.code) = h.bits := by
  rw [setB_perm (hl.trans (headBits_perm h))]
  unfold PHead.bits orIf setB
  simp only [List.foldl_cons, List.foldl_nil]
end Go.Proofs.YtgpfjlfkaoffeaaGreatDoor
namespace Go.Proofs.YtgpfjlfkaoffeaaGreatDoor
open Go
def macC (bv : Value) (k1 k2 k3 k4 : Nat) (m : PM) (h : fY) : List Value :=
 [bv, .int .i64 k1, .int .i64 k2, .int .i64 k3, .int .i64 k4, .int .i64 ((m.sec : Int) - 1), .int .i64 m.index, .int .i64 m.at_, .bool m.valid, .int .i64 m.headAt,
  fR h.name, .int .u16 m.htype, .int .u16 h.cls, .int .u32 h.ttl, .int .u16 m.hlen, .int .i64 h.kind, .slice none 0 0, fR h.host, fR h.box, .int .u32 h.n1, .int .u32 h.n2, .int .u32 h.n3, .int .u32 h.n4, .int .u32 h.n5, .slice none 0 0, .slice none 0 0]
def MR (l : List UInt8) (mv : Value) (m : PM) (cs : List Value) : Prop :=
 ∃ bv k1 k2 k3 k4 h, cs = macC bv k1 k2 k3 k4 m h ∧ bv.oneCell' = true ∧ (1 ≤ m.sec → bv = mv ∧ k1 = count l 1 ∧ k2 = count l 2 ∧ k3 = count l 3 ∧ k4 = count l 4)
theorem MR.mk {l : List UInt8} {mv : Value} {m : PM} {cs : List Value} (h : fY) (hb : mv.oneCell' = true) (hc : cs = macC mv (count l 1) (count l 2) (count l 3) (count l 4) m h) : MR l mv m cs :=
 ⟨mv, _, _, _, _, h, hc, hb, fun _ => ⟨rfl, rfl, rfl, rfl, rfl⟩⟩
theorem MR.get {l : List UInt8} {mv : Value} {m : PM} {cs : List Value} (h : MR l mv m cs) (hs : 1 ≤ m.sec) : ∃ r, cs = macC mv (count l 1) (count l 2) (count l 3) (count l 4) m r := by
 obtain ⟨bv, k1, k2, k3, k4, r, h1, _, h3⟩ := h
 obtain ⟨rfl, rfl, rfl, rfl, rfl⟩ := h3 hs
 exact ⟨r, h1⟩
theorem MR.len {l : List UInt8} {mv : Value} {m : PM} {cs : List Value} (h : MR l mv m cs) : cs.length = 26 ∧ Flat cs := by
 obtain ⟨bv, k1, k2, k3, k4, r, rfl, hb, _⟩ := h
 refine ⟨rfl, aG ?_⟩
 unfold macC
 simp only [List.all_cons, List.all_nil, hb]
 rfl
end Go.Proofs.YtgpfjlfkaoffeaaGreatDoor
namespace Go.Proofs.YtgpfjlfkaoffeaaGreatDoor
open Go
section
variable {V : Vw} {w0 : World} {l : List UInt8} {mv : Value} {off : Int}
def RBy (V : Vw) (l : List UInt8) (n c : Nat) (bv : Value) (ok : Bool) : Prop := (ok = true ∧ n + c ≤ l.length ∧ RB V bv (seg l n c)) ∨ (ok = false ∧ l.length < n + c ∧ bv = .slice none 0 0)
theorem RBy.oneCell {V : Vw} {l : List UInt8} {n c : Nat} {bv : Value} {ok : Bool} (h : RBy V l n c bv ok) : bv.oneCell' = true := by
 rcases h with ⟨_, _, h⟩ | ⟨_, _, rfl⟩
 exact h.oneCell
 rfl
theorem c_KindOf (hV : V.In w0) (t : Nat) {tv : Int} (ht : tv = t) : eC Tryz.prog 118 #[.int .u16 tv] w0 fun v w' => v = .int .i64 (eE t : Nat) ∧ St ⟨w0, V, V⟩ w' [] := by
 subst ht
 have hs := St.start hV
 refine aT [_] Tryz.func118 Tryz.ntmps118 Tryz.results118 rfl rfl (dP (dN rfl rfl (aH (aF (dP (dM rfl rfl (aH (bQ (dP (lp (bI rfl rfl) rfl (dN rfl rfl (aH (bH rfl (fun hc0 => ?_) (fun hc0 => ?_))))))))))))))
 refine dP (dN rfl rfl (aH (aV ⟨_, fW rfl, ?_⟩)))
 exact ⟨congrArg (fun q : Nat => Value.int .i64 q) (show 1 = eE t by unfold eE; rw [if_pos (by omega)]), hs⟩
 refine dP (lp (bI rfl rfl) rfl (dN rfl rfl (aH (bH rfl (fun hc1 => ?_) (fun hc1 => ?_)))))
 refine dP (dN rfl rfl (aH (aV ⟨_, fW rfl, ?_⟩)))
 exact ⟨congrArg (fun q : Nat => Value.int .i64 q) (show 2 = eE t by unfold eE; rw [if_neg (by omega), if_pos (by omega)]), hs⟩
 refine dP (lp (bI rfl rfl) rfl (dN rfl rfl (aH (bH rfl (fun hc2 => ?_) (fun hc2 => ?_)))))
 refine dP (dN rfl rfl (aH (aV ⟨_, fW rfl, ?_⟩)))
 exact ⟨congrArg (fun q : Nat => Value.int .i64 q) (show 3 = eE t by unfold eE; rw [if_neg (by omega), if_neg (by omega), if_pos (by omega)]), hs⟩
 refine dP (lp (bI rfl rfl) rfl (dN rfl rfl (aH (bH rfl (fun hc3 => ?_) (fun hc3 => ?_)))))
 refine dP (dN rfl rfl (aH (aV ⟨_, fW rfl, ?_⟩)))
 exact ⟨congrArg (fun q : Nat => Value.int .i64 q) (show 4 = eE t by unfold eE; rw [if_neg (by omega), if_neg (by omega), if_neg (by omega), if_pos (by omega)]), hs⟩
 refine dP (lp (bI rfl rfl) rfl (dN rfl rfl (aH (bH rfl (fun hc4 => ?_) (fun hc4 => ?_)))))
 refine dP (dN rfl rfl (aH (aV ⟨_, fW rfl, ?_⟩)))
 exact ⟨congrArg (fun q : Nat => Value.int .i64 q) (show 5 = eE t by unfold eE; rw [if_neg (by omega), if_neg (by omega), if_neg (by omega), if_neg (by omega), if_pos (by omega)]), hs⟩
 refine dP (lp (bI rfl rfl) rfl (dN rfl rfl (aH (bH rfl (fun hc5 => ?_) (fun hc5 => ?_)))))
 refine dP (dN rfl rfl (aH (aV ⟨_, fW rfl, ?_⟩)))
 exact ⟨congrArg (fun q : Nat => Value.int .i64 q) (show 6 = eE t by unfold eE; rw [if_neg (by omega), if_neg (by omega), if_neg (by omega), if_neg (by omega), if_neg (by omega), if_pos (by omega)]), hs⟩
 refine dP (lp (bI rfl rfl) rfl (dN rfl rfl (aH (bH rfl (fun hc6 => ?_) (fun hc6 => ?_)))))
 refine dP (dN rfl rfl (aH (aV ⟨_, fW rfl, ?_⟩)))
 exact ⟨congrArg (fun q : Nat => Value.int .i64 q) (show 7 = eE t by unfold eE; rw [if_neg (by omega), if_neg (by omega), if_neg (by omega), if_neg (by omega), if_neg (by omega), if_neg (by omega), if_pos (by omega)]), hs⟩
 refine dP (lp (bI rfl rfl) rfl (dN rfl rfl (aH (bH rfl (fun hc7 => ?_) (fun hc7 => ?_)))))
 refine dP (dN rfl rfl (aH (aV ⟨_, fW rfl, ?_⟩)))
 exact ⟨congrArg (fun q : Nat => Value.int .i64 q) (show 8 = eE t by unfold eE; rw [if_neg (by omega), if_neg (by omega), if_neg (by omega), if_neg (by omega), if_neg (by omega), if_neg (by omega), if_neg (by omega), if_pos (by omega)]), hs⟩
 refine dP (lp (bI rfl rfl) rfl (dN rfl rfl (aH (bH rfl (fun hc8 => ?_) (fun hc8 => ?_)))))
 refine dP (dN rfl rfl (aH (aV ⟨_, fW rfl, ?_⟩)))
 exact ⟨congrArg (fun q : Nat => Value.int .i64 q) (show 9 = eE t by unfold eE; rw [if_neg (by omega), if_neg (by omega), if_neg (by omega), if_neg (by omega), if_neg (by omega), if_neg (by omega), if_neg (by omega), if_neg (by omega), if_pos (by omega)]), hs⟩
 refine dP (lp (bI rfl rfl) rfl (dN rfl rfl (aH (bH rfl (fun hc9 => ?_) (fun hc9 => ?_)))))
 refine dP (dN rfl rfl (aH (aV ⟨_, fW rfl, ?_⟩)))
 exact ⟨congrArg (fun q : Nat => Value.int .i64 q) (show 10 = eE t by unfold eE; rw [if_neg (by omega), if_neg (by omega), if_neg (by omega), if_neg (by omega), if_neg (by omega), if_neg (by omega), if_neg (by omega), if_neg (by omega), if_neg (by omega), if_pos (by omega)]), hs⟩
 refine dP (lp (bI rfl rfl) rfl (dN rfl rfl (aH (bH rfl (fun hc10 => ?_) (fun hc10 => ?_)))))
 refine dP (dN rfl rfl (aH (aV ⟨_, fW rfl, ?_⟩)))
 exact ⟨congrArg (fun q : Nat => Value.int .i64 q) (show 11 = eE t by unfold eE; rw [if_neg (by omega), if_neg (by omega), if_neg (by omega), if_neg (by omega), if_neg (by omega), if_neg (by omega), if_neg (by omega), if_neg (by omega), if_neg (by omega), if_neg (by omega), if_pos (by omega)]), hs⟩
 refine dP (lp (bI rfl rfl) rfl (dN rfl rfl (aH (bH rfl (fun hc11 => ?_) (fun hc11 => ?_)))))
 refine dP (dN rfl rfl (aH (aV ⟨_, fW rfl, ?_⟩)))
 exact ⟨congrArg (fun q : Nat => Value.int .i64 q) (show 12 = eE t by unfold eE; rw [if_neg (by omega), if_neg (by omega), if_neg (by omega), if_neg (by omega), if_neg (by omega), if_neg (by omega), if_neg (by omega), if_neg (by omega), if_neg (by omega), if_neg (by omega), if_neg (by omega), if_pos (by omega)]), hs⟩
 refine aW (dP (dN rfl rfl (aH (aV ⟨_, fW rfl, ?_⟩))))
 exact ⟨congrArg (fun q : Nat => Value.int .i64 q) (show 13 = eE t by unfold eE; rw [if_neg (by omega), if_neg (by omega), if_neg (by omega), if_neg (by omega), if_neg (by omega), if_neg (by omega), if_neg (by omega), if_neg (by omega), if_neg (by omega), if_neg (by omega), if_neg (by omega), if_neg (by omega)]), hs⟩
end
end Go.Proofs.YtgpfjlfkaoffeaaGreatDoor
namespace Go.Proofs.YtgpfjlfkaoffeaaGreatDoor
open Go
def allV (W : World) : Vw := fun b => W.heap[b]?
theorem allV_in (W : World) : (allV W).In W := fun _ _ h => h
theorem St.below {W W' : World} {V V' : Vw} (h : St ⟨W, V, V'⟩ W' []) : Go.RowKit.Below W.heap.size W W' :=
 ⟨h.os, h.tape, h.output, h.size, fun k hk => h.old k hk (fun x hx => by cases hx)⟩
theorem allV_cell {W : World} {b q : Nat} {u : Value} (h : W.cell? ⟨b, q, none⟩ = some u) : (allV W).cell b q = some u := by
 unfold World.cell? at h
 unfold Vw.cell allV
 split at h
 rename_i cs t fz hb
 simp only at hb
 rw [hb]
 simpa using h
 cases h
def sent (x : String × List UInt8) : String × DataW Unit := (x.1, .iface "*errors.errorString" (.ptr (.agg [.lit (.string x.2)])))
theorem laid_app {P : Program} {W : World} {tp ti te ts : TypeId} {ms : Array (String × TypeId)} {f : Field}
  (hi : P.underlying ti = some (.interface ms)) (hrow : ∀ u, P.typeName? 3 u = some "*errors.errorString" → u = tp) (hp : P.underlying tp = some (.pointer te)) (he : P.underlying te = some (.struct #[f])) (hft : f.type = ts) (hfo : f.offset = 0) (hs : P.underlying ts = some .string) (hc : P.cellsOf te = 1) (hcs : P.cellsOf ts = 1) (r : List (String × DataW Unit)) :
  ∀ (S : List (String × List UInt8)) (gs : List Nat) (ps : List MemPlace), S.map (fun x => P.globalNamed x.1) = gs.map some → (∀ g ∈ gs, (P.globals[g]?).map (·.type) = some ti) → DataW.LaidVars P W (S.map sent ++ r) ps → ps.Nodup →
   (∀ b off, MemPlace.cell b off ∈ ps → (∃ c t, W.heap[b]? = some (.cells c t (0, 0))) ∧ ∀ u v, W.cell? ⟨b, off, none⟩ = some (.iface u v) → Value.okWide P W .any 0 u v) →
   ∃ al : List Addr, al.length = gs.length ∧ (∀ (i : Nat) (g : Nat) (a : Addr), gs[i]? = some g → al[i]? = some a → W.cell? ⟨g, 0, none⟩ = some (.iface tp (.pointer (some a)))) ∧
    (∀ a ∈ al, MemPlace.cell a.block a.off ∈ ps) ∧ (al.map fun a => MemPlace.cell a.block a.off).Nodup ∧ ∃ q, DataW.LaidVars P W r q ∧ q.Sublist ps
 | [], gs, ps, hg, _, h, _, _ => by
  have : gs = [] := by cases gs <;> simp_all
  subst this
  exact ⟨[], rfl, fun i g a hx _ => by simp at hx, fun a hx => (by cases hx), by simp, ps, h, List.Sublist.refl _⟩
 | x :: S, [], ps, hg, _, _, _, _ => by simp at hg
 | x :: S, g :: gs, ps, hg, hgt, h, hnd, hrows => by
  simp only [List.map_cons, List.cons.injEq] at hg
  obtain ⟨g0, t0, cs0, f0, p0, q0, hg0, ht0, hv0, hd0, hr, e0⟩ := h
  obtain rfl : g = g0 := Option.some.inj (hg.1.symm.trans hg0)
  obtain rfl := Option.some.inj ((hgt g (by simp)).symm.trans ht0)
  subst e0
  obtain ⟨l0⟩ := cs0
  have ok0 : ∀ u v, l0 = [.iface u v] → Value.okWide P W .any 0 u v := fun u v e => by
   subst e
   exact (hrows g 0 (by simp [MemPlace.row])).2 u v (by simpa using World.var?_cell hg0 hv0 0)
  obtain ⟨a0, s0, rfl, hc0, hs0, hz0, rfl⟩ := errorString_of_trod hi hrow hp he hft hfo hs hc hcs hd0 ok0
  have hq : q0.Sublist (MemPlace.row ⟨g, 0, none⟩ 1 ++ MemPlace.row a0 1 ++ q0) := List.sublist_append_right _ _
  obtain ⟨al, h1, h2, h3, h4, q, h5, h6⟩ := laid_app hi hrow hp he hft hfo hs hc hcs r S gs q0 hg.2 (fun g hgm => hgt g (by simp [hgm])) hr (List.Nodup.sublist hq hnd) (fun b off hm => hrows b off (hq.subset hm))
  refine ⟨a0 :: al, by simp [h1], ?_, ?_, ?_, q, h5, h6.trans hq⟩
  intro i g' a hg' ha
  cases i with
  | zero =>
   simp at hg' ha
   subst hg' ha
   simpa using World.var?_cell hg0 hv0 0
  | succ i => exact h2 i g' a (by simpa using hg') (by simpa using ha)
  intro a ha
  rcases List.mem_cons.1 ha with rfl | ha
  simp [MemPlace.row]
  exact hq.subset (h3 a ha)
  simp only [List.map_cons, List.nodup_cons]
  refine ⟨fun hm => ?_, h4⟩
  obtain ⟨a, ha, e⟩ := List.mem_map.1 hm
  have hin := h3 a ha
  rw [e] at hin
  have hn2 := hnd
  rw [List.append_assoc] at hn2
  have := (List.nodup_append.1 (List.nodup_append.1 hn2).2.1).2.2 (MemPlace.cell a0.block a0.off) (by simp [MemPlace.row]) _ hin
  exact this rfl
end Go.Proofs.YtgpfjlfkaoffeaaGreatDoor
namespace Go.Proofs.YtgpfjlfkaoffeaaGreatDoor
open Go
theorem findNow_u8 : ∀ (es : List MapEntry) (i : Nat) (k : Int), (∀ x ∈ es, (∃ n : Int, x.key = .int .u8 n) ∧ ∃ s : ByteArray, x.val = .string s ∧ s.size ≤ 100) →
  ∃ r, Instr.findNow (.int .u8) (.int .u8 k) es i = some r ∧ ∀ j v, r = some (j, v) → ∃ s : ByteArray, v = .string s ∧ s.size ≤ 100
 | [], i, k, _ => ⟨none, rfl, fun j v h => by cases h⟩
 | e :: es, i, k, h => by
  obtain ⟨⟨n, hn⟩, s, hs, hz⟩ := h e (by simp)
  unfold Instr.findNow
  rw [hn]
  simp only [Instr.sameNow, if_true]
  cases hk : (k == n)
  exact findNow_u8 es (i + 1) k (fun x hx => h x (by simp [hx]))
  exact ⟨_, rfl, fun j v hr => by cases hr; exact ⟨s, hs, hz⟩⟩
theorem laid_map {P : Program} {W : World} {t k e : TypeId} {fuel : Nat} {cs : List Value} {entries : List (Lit × DataW Unit)} {p : List MemPlace} {sp : Nat → Bool} (ht : P.underlying t = some (.map k e)) (hk : P.underlying k = some (.int .u8)) (he : P.underlying e = some .string)
  (h : DataW.trod (fun _ => ()) P W 0 sp false fuel t cs = some (.map entries, p)) (hb : ∀ x ∈ entries, ∃ bs : List UInt8, x.2 = .lit (.string bs) ∧ bs.length ≤ 100) :
  ∃ m es c, cs = [.map (some m)] ∧ W.heap[m]? = some (.map es c) ∧ ∀ x ∈ es.toList, (∃ n : Int, x.key = .int .u8 n) ∧ ∃ s : ByteArray, x.val = .string s ∧ s.size ≤ 100 := by
 rcases Go.WideElems.open_map ht h with ⟨_, hx⟩ | ⟨b, es, clock, n, rfl, rfl, hm, _, F, hx⟩
 cases hx
 refine ⟨b, es, clock, rfl, hm, fun x hxm => ?_⟩
 obtain ⟨y, hy⟩ := F.reads x hxm
 have hent : entries = (es.toList.map (Go.WideElems.rg P k (Go.WideElems.elemAt (fun _ => ()) P W 0 sp false n e))).foldr DataW.insert [] := by
  have := congrArg Prod.fst hx
  simpa using this
 have hmem : y ∈ entries := by
  rw [hent, (Go.WideShapes.sorted_perm _).mem_iff]
  exact List.mem_map.2 ⟨x, hxm, by unfold Go.WideElems.rg; rw [hy]; rfl⟩
 obtain ⟨bs, hbs, hlen⟩ := hb y hmem
 unfold Go.WideElems.rd at hy
 obtain ⟨key, hkey, hy⟩ := Option.bind_eq_some_iff.1 hy
 obtain ⟨z, hz, rfl⟩ := Option.map_eq_some_iff.1 hy
 simp only at hbs
 constructor
 unfold keyOf at hkey
 rw [hk] at hkey
 unfold mapKey at hkey
 rw [hk] at hkey
 cases hx2 : x.key <;> rw [hx2] at hkey <;> simp at hkey
 obtain ⟨⟨rfl, _⟩, _⟩ := hkey
 exact ⟨_, rfl⟩
 unfold Go.WideElems.elemAt at hz
 split at hz
 rename_i hfm
 obtain ⟨s, hcs, rfl, _⟩ := DataW.trod_string he hz
 refine ⟨s, ?_, ?_⟩
 cases hv : x.val <;> rw [hv] at hcs hfm <;> simp only [Value.cells, List.cons.injEq, and_true] at hcs <;> first | exact hcs | (exfalso; revert hfm; unfold Value.formed; rw [he]; simp)
 have e : s.data.toList = bs := by injection hbs with e1; injection e1
 show s.data.size ≤ 100
 rw [← Array.length_toList, e]
 exact hlen
 cases hz
end Go.Proofs.YtgpfjlfkaoffeaaGreatDoor
namespace Go.Proofs.YtgpfjlfkaoffeaaGreatDoor
open Go Go.Proofs.YtgpfjlfkaoffeaaGreatDoor
def laidS : List (String × List UInt8) := [("loop.example/pub-domainbytes/pub/dnsmessage.ErrNotStarted", [112, 97, 114, 115, 105, 110, 103, 47, 112, 97, 99, 107, 105, 110, 103, 32, 111, 102, 32, 116, 104, 105, 115, 32, 116, 121, 112, 101, 32, 105, 115, 110, 39, 116, 32, 97, 118, 97, 105, 108, 97, 98, 108, 101, 32, 121, 101, 116]), ("loop.example/pub-domainbytes/pub/dnsmessage.ErrSectionDone", [112, 97, 114, 115, 105, 110, 103, 47, 112, 97, 99, 107, 105, 110, 103, 32, 111, 102, 32, 116, 104, 105, 115, 32, 115, 101, 99, 116, 105, 111, 110, 32, 104, 97, 115, 32, 99, 111, 109, 112, 108, 101, 116, 101, 100]), ("loop.example/pub-domainbytes/pub/dnsmessage.errBaseLen", [105, 110, 115, 117, 102, 102, 105, 99, 105, 101, 110, 116, 32, 100, 97, 116, 97, 32, 102, 111, 114, 32, 98, 97, 115, 101, 32, 108, 101, 110, 103, 116, 104, 32, 116, 121, 112, 101]), ("loop.example/pub-domainbytes/pub/dnsmessage.errCalcLen", [105, 110, 115, 117, 102, 102, 105, 99, 105, 101, 110, 116, 32, 100, 97, 116, 97, 32, 102, 111, 114, 32, 99, 97, 108, 99, 117, 108, 97, 116, 101, 100, 32, 108, 101, 110, 103, 116, 104, 32, 116, 121, 112, 101]), ("loop.example/pub-domainbytes/pub/dnsmessage.errReserved", [115, 101, 103, 109, 101, 110, 116, 32, 112, 114, 101, 102, 105, 120, 32, 105, 115, 32, 114, 101, 115, 101, 114, 118, 101, 100]), ("loop.example/pub-domainbytes/pub/dnsmessage.errTooManyPtr", [116, 111, 111, 32, 109, 97, 110, 121, 32, 112, 111, 105, 110, 116, 101, 114, 115, 32, 40, 62, 49, 48, 41]), ("loop.example/pub-domainbytes/pub/dnsmessage.errInvalidPtr", [105, 110, 118, 97, 108, 105, 100, 32, 112, 111, 105, 110, 116, 101, 114]), ("loop.example/pub-domainbytes/pub/dnsmessage.errInvalidName", [105, 110, 118, 97, 108, 105, 100, 32, 100, 110, 115, 32, 110, 97, 109, 101]), ("loop.example/pub-domainbytes/pub/dnsmessage.errNilResouceBody", [110, 105, 108, 32, 114, 101, 115, 111, 117, 114, 99, 101, 32, 98, 111, 100, 121]), ("loop.example/pub-domainbytes/pub/dnsmessage.errResourceLen", [105, 110, 115, 117, 102, 102, 105, 99, 105, 101, 110, 116, 32, 100, 97, 116, 97, 32, 102, 111, 114, 32, 114, 101, 115, 111, 117, 114, 99, 101, 32, 98, 111, 100, 121, 32, 108, 101, 110, 103, 116, 104]), ("loop.example/pub-domainbytes/pub/dnsmessage.errSegTooLong", [115, 101, 103, 109, 101, 110, 116, 32, 108, 101, 110, 103, 116, 104, 32, 116, 111, 111, 32, 108, 111, 110, 103]), ("loop.example/pub-domainbytes/pub/dnsmessage.errNameTooLong", [110, 97, 109, 101, 32, 116, 111, 111, 32, 108, 111, 110, 103]), ("loop.example/pub-domainbytes/pub/dnsmessage.errZeroSegLen", [122, 101, 114, 111, 32, 108, 101, 110, 103, 116, 104, 32, 115, 101, 103, 109, 101, 110, 116]), ("loop.example/pub-domainbytes/pub/dnsmessage.errResTooLong", [114, 101, 115, 111, 117, 114, 99, 101, 32, 108, 101, 110, 103, 116, 104, 32, 116, 111, 111, 32, 108, 111, 110, 103]), ("loop.example/pub-domainbytes/pub/dnsmessage.errTooManyQuestions", [116, 111, 111, 32, 109, 97, 110, 121, 32, 81, 117, 101, 115, 116, 105, 111, 110, 115, 32, 116, 111, 32, 112, 97, 99, 107, 32, 40, 62, 54, 53, 53, 51, 53, 41]), ("loop.example/pub-domainbytes/pub/dnsmessage.errTooManyAnswers", [116, 111, 111, 32, 109, 97, 110, 121, 32, 65, 110, 115, 119, 101, 114, 115, 32, 116, 111, 32, 112, 97, 99, 107, 32, 40, 62, 54, 53, 53, 51, 53, 41]), ("loop.example/pub-domainbytes/pub/dnsmessage.errTooManyAuthorities", [116, 111, 111, 32, 109, 97, 110, 121, 32, 65, 117, 116, 104, 111, 114, 105, 116, 105, 101, 115, 32, 116, 111, 32, 112, 97, 99, 107, 32, 40, 62, 54, 53, 53, 51, 53, 41]), ("loop.example/pub-domainbytes/pub/dnsmessage.errTooManyAdditionals", [116, 111, 111, 32, 109, 97, 110, 121, 32, 65, 100, 100, 105, 116, 105, 111, 110, 97, 108, 115, 32, 116, 111, 32, 112, 97, 99, 107, 32, 40, 62, 54, 53, 53, 51, 53, 41]), ("loop.example/pub-domainbytes/pub/dnsmessage.errNonCanonicalName", [110, 97, 109, 101, 32, 105, 115, 32, 110, 111, 116, 32, 105, 110, 32, 99, 97, 110, 111, 110, 105, 99, 97, 108, 32, 102, 111, 114, 109, 97, 116, 32, 40, 105, 116, 32, 109, 117, 115, 116, 32, 101, 110, 100, 32, 119, 105, 116, 104, 32, 97, 32, 46, 41]), ("loop.example/pub-domainbytes/pub/dnsmessage.errParamOutOfOrder", [112, 97, 114, 97, 109, 101, 116, 101, 114, 32, 111, 117, 116, 32, 111, 102, 32, 111, 114, 100, 101, 114])]
def laidG : List Nat := [4, 5, 12, 13, 17, 16, 15, 14, 6, 19, 9, 7, 10, 11, 0, 1, 2, 3, 8, 20]
theorem laid_is : Rows.fnParamsOrderRow.laid = laidS.map sent ++ [("loop.example/pub-domainbytes/pub/dnsmessage.sectionNames", Rows.laid_loop_example_pub_domainbytes_pub_dnsmessage_sectionNames)] := rfl
theorem laidS_names : laidS.map (fun x => Tryz.prog.globalNamed x.1) = laidG.map some := by kernel_rfl
theorem laidG_types : ∀ g ∈ laidG, (Tryz.prog.globals[g]?).map (·.type) = some 57 := by
 have h : laidG.all (fun g => (Tryz.prog.globals[g]?).map (·.type) == some 57) = true := by kernel_rfl
 intro g hg
 simpa using List.all_eq_true.1 h g hg
theorem errGs_in : ∀ g, errGs.contains g = true → ∃ i : Nat, laidG[i]? = some g := by
 have h : errGs.all (fun g => laidG.contains g) = true := by decide
 intro g hg
 have h2 := List.all_eq_true.1 h g (by simpa using hg)
 have h3 : g ∈ laidG := by simpa using h2
 obtain ⟨i, hi, e⟩ := List.getElem_of_mem h3
 exact ⟨i, by rw [List.getElem?_eq_getElem hi, e]⟩
theorem star : "*" ++ "errors.errorString" = "*errors.errorString" := by decide
theorem rowErr (u : TypeId) (h : Tryz.prog.typeName? 3 u = some "*errors.errorString") : u = 347 :=
 typeName_ptr_named (nm := "errors.errorString") (by rw [star]; kernel_rfl) (by kernel_rfl) (by decide) u (by rw [star]; exact h)
theorem cellsE : Tryz.prog.cellsOf 365 = 1 := by kernel_rfl
theorem cellsStr : Tryz.prog.cellsOf 9 = 1 := by kernel_rfl
theorem lawSec : Tryz.prog.globalNamed "loop.example/pub-domainbytes/pub/dnsmessage.sectionNames" = some 18 := by kernel_rfl
theorem lawSecT : (Tryz.prog.globals[18]?).map (·.type) = some 336 := by kernel_rfl
noncomputable def addrAt (W : World) (g : Nat) : Addr := match W.cell? ⟨g, 0, none⟩ with
 | some (.iface _ (.pointer (some a))) => a
 | _ => ⟨0, 0, none⟩
theorem laidMet_of {W : World} (h : laidMetH Tryz.prog Rows.fnParamsOrderRow.laid W) : laidMet Tryz.prog Rows.fnParamsOrderRow.laid W := by
 unfold laidMetH at h
 rw [show (Rows.fnParamsOrderRow.laid.filter fun x => x.2.handleName?.isSome) = [] from by kernel_rfl] at h
 exact h
theorem gl_of_laid {W : World} (h : laidMetH Tryz.prog Rows.fnParamsOrderRow.laid W) : Gl (addrAt W) (allV W) := by
 obtain ⟨ps, hl, hnd, hrows⟩ := laidMet_of h
 rw [laid_is] at hl
 obtain ⟨al, hal, h1, h2, h3, q, hq, hsub⟩ := laid_app Tryz.underlying57 rowErr Tryz.underlying347 Tryz.underlying365 rfl rfl Tryz.underlying9 cellsE cellsStr _ laidS laidG ps laidS_names laidG_types hl hnd hrows
 have hA : ∀ (i g : Nat) (a : Addr), laidG[i]? = some g → al[i]? = some a → addrAt W g = a := fun i g a hg ha => by
  unfold addrAt; rw [h1 i g a hg ha]
 have hex : ∀ g, errGs.contains g = true → ∃ (i : Nat) (a : Addr), laidG[i]? = some g ∧ al[i]? = some a ∧ addrAt W g = a := fun g hg => by
  obtain ⟨i, hi⟩ := errGs_in g hg
  have hlt : i < al.length := by
   rw [hal]
   rcases Nat.lt_or_ge i laidG.length with h' | h'
   exact h'
   rw [List.getElem?_eq_none h'] at hi; cases hi
  exact ⟨i, al[i], hi, List.getElem?_eq_getElem hlt, hA i g _ hi (List.getElem?_eq_getElem hlt)⟩
 refine ⟨fun g hg => ?_, fun g hg => ?_, fun g g' hg hg' e => ?_, ?_⟩
 obtain ⟨i, a, hi, ha, rfl⟩ := hex g hg
 exact allV_cell (h1 i g _ hi ha)
 obtain ⟨i, a, hi, ha, rfl⟩ := hex g hg
 obtain ⟨c, t, hb⟩ := (hrows _ _ (h2 _ (List.mem_of_getElem? ha))).1
 exact ⟨c, t, hb⟩
 obtain ⟨i, a, hi, ha, rfl⟩ := hex g hg
 obtain ⟨j, a', hj, ha', rfl⟩ := hex g' hg'
 rw [← e] at ha'
 obtain ⟨hil, ei⟩ := List.getElem?_eq_some_iff.1 ha
 have hij : i = j := (List.getElem?_inj (by simpa using hil) h3).1 (by rw [List.getElem?_map, List.getElem?_map, ha, ha'])
 subst hij
 rw [hi] at hj; cases hj; rfl
 obtain ⟨g, t, cs, fuel, p, q', hg, ht, hv, hd, _, _⟩ := hq
 obtain rfl := Option.some.inj (lawSec.symm.trans hg)
 obtain rfl := Option.some.inj (lawSecT.symm.trans ht)
 obtain ⟨m, es, c, hcs, hm, hes⟩ := laid_map Tryz.underlying336 Tryz.underlying98 Tryz.underlying9 hd (by
  intro x hx
  simp only [List.mem_cons, List.not_mem_nil, or_false] at hx
  rcases hx with rfl | rfl | rfl | rfl | rfl <;> exact ⟨_, rfl, by decide⟩)
 refine ⟨m, es, c, allV_cell ?_, hm, fun k => findNow_u8 es.toList 0 k hes⟩
 obtain ⟨l0⟩ := cs
 simp only at hcs
 subst hcs
 simpa using World.var?_cell hg hv 0
end Go.Proofs.YtgpfjlfkaoffeaaGreatDoor
namespace Go.Proofs.YtgpfjlfkaoffeaaGreatDoor
open Go Go.Proofs.YtgpfjlfkaoffeaaGreatDoor Go.ChangeShapes Go.WideShapes Go.RowKit
theorem cellsU8 : Tryz.prog.cellsOf 5 = 1 := by kernel_rfl
theorem laidOut : laidOutB Tryz.prog = true := by kernel_rfl
end Go.Proofs.YtgpfjlfkaoffeaaGreatDoor
namespace Go.Proofs.YtgpfjlfkaoffeaaGreatDoor
open Go Go.Proofs.YtgpfjlfkaoffeaaGreatDoor Go.ChangeShapes Go.WideShapes Go.RowKit
theorem vars_len {H : Type} {enc : TypeId × Value → H} {P : Program} {W : World} {sp : Nat → Bool} : ∀ {ns : List String} {gs : List (DataW H)} {ps : List MemPlace}, DataW.TrodVars enc P W sp ns gs ps → gs.length = ns.length
 | [], [], _, _ => rfl
 | [], _ :: _, _, h => h.elim
 | _ :: _, [], _, h => h.elim
 | n :: ns, d :: ds, ps, h => by
  obtain ⟨g, t, cs, fuel, p, q, _, _, _, _, hs, _⟩ := h
  simp [vars_len hs]
theorem u16_nat {z : Int} (h : (Lit.int .u16 z).wf = true) : ∃ n : Nat, n < 65536 ∧ z = n := by
 have hr : 0 ≤ z ∧ z ≤ 65535 := by
  simp [Lit.wf, IntKind.min, IntKind.max, IntKind.signed, IntKind.bits] at h
  omega
 exact ⟨z.toNat, by omega, by omega⟩
end Go.Proofs.YtgpfjlfkaoffeaaGreatDoor

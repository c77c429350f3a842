/- What the row's list gives: the package's variables as the walks want them; what the walks leave, for the row. The map that is laid. What the row lists, for the walks. Made by a program of this claim (genW3.py). An argument of bytes, of numbers. How many variables a row names. -/
import Derived.Test.YtmigokakpahgkaaGreatDoorG08
import Derived.Carry
import Derived.OpenVars
import Derived.LaidLaws
import Derived.LaidSub
import GoSem.ClaimJoined
import Derived.WideKeyElems2
import Derived.Test.YtmigokakpahgkaaGreatDoorRows
import Derived.ChangeSlices
import Derived.OpenShut
import Derived.RowKit
set_option linter.all false
namespace Go.Proofs.YtmigokakpahgkaaGreatDoor
open Go
def allV (W : World) : Vw := fun b => W.heap[b]?
theorem allV_in (W : World) : (allV W).In W := fun _ _ h => h
theorem St.below {W W' : World} {V V' : Vw} (h : St ⟨W, V, V'⟩ W' []) : Go.RowKit.Below W.heap.size W W' :=
 ⟨h.os, h.tape, h.output, h.size, fun k hk => h.old k hk (fun x hx => by cases hx)⟩
theorem allV_cell {W : World} {b q : Nat} {u : Value} (h : W.cell? ⟨b, q, none⟩ = some u) : (allV W).cell b q = some u := by
 unfold World.cell? at h
 unfold Vw.cell allV
 split at h
 rename_i cs t fz hb
 simp only at hb
 rw [hb]
 simpa using h
 cases h
def sent (x : String × List UInt8) : String × DataW Unit := (x.1, .iface "*errors.errorString" (.ptr (.agg [.lit (.string x.2)])))
theorem laid_app {P : Program} {W : World} {tp ti te ts : TypeId} {ms : Array (String × TypeId)} {f : Field}
  (hi : P.underlying ti = some (.interface ms)) (hrow : ∀ u, P.typeName? 3 u = some "*errors.errorString" → u = tp) (hp : P.underlying tp = some (.pointer te)) (he : P.underlying te = some (.struct #[f])) (hft : f.type = ts) (hfo : f.offset = 0) (hs : P.underlying ts = some .string) (hc : P.cellsOf te = 1) (hcs : P.cellsOf ts = 1) (r : List (String × DataW Unit)) :
  ∀ (S : List (String × List UInt8)) (gs : List Nat) (ps : List MemPlace), S.map (fun x => P.globalNamed x.1) = gs.map some → (∀ g ∈ gs, (P.globals[g]?).map (·.type) = some ti) → DataW.LaidVars P W (S.map sent ++ r) ps → ps.Nodup →
   (∀ b off, MemPlace.cell b off ∈ ps → (∃ c t, W.heap[b]? = some (.cells c t (0, 0))) ∧ ∀ u v, W.cell? ⟨b, off, none⟩ = some (.iface u v) → Value.okWide P W .any 0 u v) →
   ∃ al : List Addr, al.length = gs.length ∧ (∀ (i : Nat) (g : Nat) (a : Addr), gs[i]? = some g → al[i]? = some a → W.cell? ⟨g, 0, none⟩ = some (.iface tp (.pointer (some a)))) ∧
    (∀ a ∈ al, MemPlace.cell a.block a.off ∈ ps) ∧ (al.map fun a => MemPlace.cell a.block a.off).Nodup ∧ ∃ q, DataW.LaidVars P W r q ∧ q.Sublist ps
 | [], gs, ps, hg, _, h, _, _ => by
  have : gs = [] := by cases gs <;> simp_all
  subst this
  exact ⟨[], rfl, fun i g a hx _ => by simp at hx, fun a hx => (by cases hx), by simp, ps, h, List.Sublist.refl _⟩
 | x :: S, [], ps, hg, _, _, _, _ => by simp at hg
 | x :: S, g :: gs, ps, hg, hgt, h, hnd, hrows => by
  simp only [List.map_cons, List.cons.injEq] at hg
  obtain ⟨g0, t0, cs0, f0, p0, q0, hg0, ht0, hv0, hd0, hr, e0⟩ := h
  obtain rfl : g = g0 := Option.some.inj (hg.1.symm.trans hg0)
  obtain rfl := Option.some.inj ((hgt g (by simp)).symm.trans ht0)
  subst e0
  obtain ⟨l0⟩ := cs0
  have ok0 : ∀ u v, l0 = [.iface u v] → Value.okWide P W .any 0 u v := fun u v e => by
   subst e
   exact (hrows g 0 (by simp [MemPlace.row])).2 u v (by simpa using World.var?_cell hg0 hv0 0)
  obtain ⟨a0, s0, rfl, hc0, hs0, hz0, rfl⟩ := errorString_of_trod hi hrow hp he hft hfo hs hc hcs hd0 ok0
  have hq : q0.Sublist (MemPlace.row ⟨g, 0, none⟩ 1 ++ MemPlace.row a0 1 ++ q0) := List.sublist_append_right _ _
  obtain ⟨al, h1, h2, h3, h4, q, h5, h6⟩ := laid_app hi hrow hp he hft hfo hs hc hcs r S gs q0 hg.2 (fun g hgm => hgt g (by simp [hgm])) hr (List.Nodup.sublist hq hnd) (fun b off hm => hrows b off (hq.subset hm))
  refine ⟨a0 :: al, by simp [h1], ?_, ?_, ?_, q, h5, h6.trans hq⟩
  intro i g' a hg' ha
  cases i with
  | zero =>
   simp at hg' ha
   subst hg' ha
   simpa using World.var?_cell hg0 hv0 0
  | succ i => exact h2 i g' a (by simpa using hg') (by simpa using ha)
  intro a ha
  rcases List.mem_cons.1 ha with rfl | ha
  simp [MemPlace.row]
  exact hq.subset (h3 a ha)
  simp only [List.map_cons, List.nodup_cons]
  refine ⟨fun hm => ?_, h4⟩
  obtain ⟨a, ha, e⟩ := List.mem_map.1 hm
  have hin := h3 a ha
  rw [e] at hin
  have hn2 := hnd
  rw [List.append_assoc] at hn2
  have := (List.nodup_append.1 (List.nodup_append.1 hn2).2.1).2.2 (MemPlace.cell a0.block a0.off) (by simp [MemPlace.row]) _ hin
  exact this rfl
end Go.Proofs.YtmigokakpahgkaaGreatDoor
namespace Go.Proofs.YtmigokakpahgkaaGreatDoor
open Go
theorem findNow_u8 : ∀ (es : List MapEntry) (i : Nat) (k : Int), (∀ x ∈ es, (∃ n : Int, x.key = .int .u8 n) ∧ ∃ s : ByteArray, x.val = .string s ∧ s.size ≤ 100) →
  ∃ r, Instr.findNow (.int .u8) (.int .u8 k) es i = some r ∧ ∀ j v, r = some (j, v) → ∃ s : ByteArray, v = .string s ∧ s.size ≤ 100
 | [], i, k, _ => ⟨none, rfl, fun j v h => by cases h⟩
 | e :: es, i, k, h => by
  obtain ⟨⟨n, hn⟩, s, hs, hz⟩ := h e (by simp)
  unfold Instr.findNow
  rw [hn]
  simp only [Instr.sameNow, if_true]
  cases hk : (k == n)
  exact findNow_u8 es (i + 1) k (fun x hx => h x (by simp [hx]))
  exact ⟨_, rfl, fun j v hr => by cases hr; exact ⟨s, hs, hz⟩⟩
theorem laid_map {P : Program} {W : World} {t k e : TypeId} {fuel : Nat} {cs : List Value} {entries : List (Lit × DataW Unit)} {p : List MemPlace} {sp : Nat → Bool} (ht : P.underlying t = some (.map k e)) (hk : P.underlying k = some (.int .u8)) (he : P.underlying e = some .string)
  (h : DataW.trod (fun _ => ()) P W 0 sp false fuel t cs = some (.map entries, p)) (hb : ∀ x ∈ entries, ∃ bs : List UInt8, x.2 = .lit (.string bs) ∧ bs.length ≤ 100) :
  ∃ m es c, cs = [.map (some m)] ∧ W.heap[m]? = some (.map es c) ∧ ∀ x ∈ es.toList, (∃ n : Int, x.key = .int .u8 n) ∧ ∃ s : ByteArray, x.val = .string s ∧ s.size ≤ 100 := by
 rcases Go.WideElems.open_map ht h with ⟨_, hx⟩ | ⟨b, es, clock, n, rfl, rfl, hm, _, F, hx⟩
 cases hx
 refine ⟨b, es, clock, rfl, hm, fun x hxm => ?_⟩
 obtain ⟨y, hy⟩ := F.reads x hxm
 have hent : entries = (es.toList.map (Go.WideElems.rg P k (Go.WideElems.elemAt (fun _ => ()) P W 0 sp false n e))).foldr DataW.insert [] := by
  have := congrArg Prod.fst hx
  simpa using this
 have hmem : y ∈ entries := by
  rw [hent, (Go.WideShapes.sorted_perm _).mem_iff]
  exact List.mem_map.2 ⟨x, hxm, by unfold Go.WideElems.rg; rw [hy]; rfl⟩
 obtain ⟨bs, hbs, hlen⟩ := hb y hmem
 unfold Go.WideElems.rd at hy
 obtain ⟨key, hkey, hy⟩ := Option.bind_eq_some_iff.1 hy
 obtain ⟨z, hz, rfl⟩ := Option.map_eq_some_iff.1 hy
 simp only at hbs
 constructor
 unfold keyOf at hkey
 rw [hk] at hkey
 unfold mapKey at hkey
 rw [hk] at hkey
 cases hx2 : x.key <;> rw [hx2] at hkey <;> simp at hkey
 obtain ⟨⟨rfl, _⟩, _⟩ := hkey
 exact ⟨_, rfl⟩
 unfold Go.WideElems.elemAt at hz
 split at hz
 rename_i hfm
 obtain ⟨s, hcs, rfl, _⟩ := DataW.trod_string he hz
 refine ⟨s, ?_, ?_⟩
 cases hv : x.val <;> rw [hv] at hcs hfm <;> simp only [Value.cells, List.cons.injEq, and_true] at hcs <;> first | exact hcs | (exfalso; revert hfm; unfold Value.formed; rw [he]; simp)
 have e : s.data.toList = bs := by injection hbs with e1; injection e1
 show s.data.size ≤ 100
 rw [← Array.length_toList, e]
 exact hlen
 cases hz
end Go.Proofs.YtmigokakpahgkaaGreatDoor
namespace Go.Proofs.YtmigokakpahgkaaGreatDoor
open Go Go.Proofs.YtmigokakpahgkaaGreatDoor
def laidS : List (String × List UInt8) := [("loop.example/pub-domainbytes/pub/dnsmessage.ErrNotStarted", [112, 97, 114, 115, 105, 110, 103, 47, 112, 97, 99, 107, 105, 110, 103, 32, 111, 102, 32, 116, 104, 105, 115, 32, 116, 121, 112, 101, 32, 105, 115, 110, 39, 116, 32, 97, 118, 97, 105, 108, 97, 98, 108, 101, 32, 121, 101, 116]), ("loop.example/pub-domainbytes/pub/dnsmessage.ErrSectionDone", [112, 97, 114, 115, 105, 110, 103, 47, 112, 97, 99, 107, 105, 110, 103, 32, 111, 102, 32, 116, 104, 105, 115, 32, 115, 101, 99, 116, 105, 111, 110, 32, 104, 97, 115, 32, 99, 111, 109, 112, 108, 101, 116, 101, 100]), ("loop.example/pub-domainbytes/pub/dnsmessage.errBaseLen", [105, 110, 115, 117, 102, 102, 105, 99, 105, 101, 110, 116, 32, 100, 97, 116, 97, 32, 102, 111, 114, 32, 98, 97, 115, 101, 32, 108, 101, 110, 103, 116, 104, 32, 116, 121, 112, 101]), ("loop.example/pub-domainbytes/pub/dnsmessage.errCalcLen", [105, 110, 115, 117, 102, 102, 105, 99, 105, 101, 110, 116, 32, 100, 97, 116, 97, 32, 102, 111, 114, 32, 99, 97, 108, 99, 117, 108, 97, 116, 101, 100, 32, 108, 101, 110, 103, 116, 104, 32, 116, 121, 112, 101]), ("loop.example/pub-domainbytes/pub/dnsmessage.errReserved", [115, 101, 103, 109, 101, 110, 116, 32, 112, 114, 101, 102, 105, 120, 32, 105, 115, 32, 114, 101, 115, 101, 114, 118, 101, 100]), ("loop.example/pub-domainbytes/pub/dnsmessage.errTooManyPtr", [116, 111, 111, 32, 109, 97, 110, 121, 32, 112, 111, 105, 110, 116, 101, 114, 115, 32, 40, 62, 49, 48, 41]), ("loop.example/pub-domainbytes/pub/dnsmessage.errInvalidPtr", [105, 110, 118, 97, 108, 105, 100, 32, 112, 111, 105, 110, 116, 101, 114]), ("loop.example/pub-domainbytes/pub/dnsmessage.errInvalidName", [105, 110, 118, 97, 108, 105, 100, 32, 100, 110, 115, 32, 110, 97, 109, 101]), ("loop.example/pub-domainbytes/pub/dnsmessage.errNilResouceBody", [110, 105, 108, 32, 114, 101, 115, 111, 117, 114, 99, 101, 32, 98, 111, 100, 121]), ("loop.example/pub-domainbytes/pub/dnsmessage.errResourceLen", [105, 110, 115, 117, 102, 102, 105, 99, 105, 101, 110, 116, 32, 100, 97, 116, 97, 32, 102, 111, 114, 32, 114, 101, 115, 111, 117, 114, 99, 101, 32, 98, 111, 100, 121, 32, 108, 101, 110, 103, 116, 104]), ("loop.example/pub-domainbytes/pub/dnsmessage.errSegTooLong", [115, 101, 103, 109, 101, 110, 116, 32, 108, 101, 110, 103, 116, 104, 32, 116, 111, 111, 32, 108, 111, 110, 103]), ("loop.example/pub-domainbytes/pub/dnsmessage.errNameTooLong", [110, 97, 109, 101, 32, 116, 111, 111, 32, 108, 111, 110, 103]), ("loop.example/pub-domainbytes/pub/dnsmessage.errZeroSegLen", [122, 101, 114, 111, 32, 108, 101, 110, 103, 116, 104, 32, 115, 101, 103, 109, 101, 110, 116]), ("loop.example/pub-domainbytes/pub/dnsmessage.errResTooLong", [114, 101, 115, 111, 117, 114, 99, 101, 32, 108, 101, 110, 103, 116, 104, 32, 116, 111, 111, 32, 108, 111, 110, 103]), ("loop.example/pub-domainbytes/pub/dnsmessage.errTooManyQuestions", [116, 111, 111, 32, 109, 97, 110, 121, 32, 81, 117, 101, 115, 116, 105, 111, 110, 115, 32, 116, 111, 32, 112, 97, 99, 107, 32, 40, 62, 54, 53, 53, 51, 53, 41]), ("loop.example/pub-domainbytes/pub/dnsmessage.errTooManyAnswers", [116, 111, 111, 32, 109, 97, 110, 121, 32, 65, 110, 115, 119, 101, 114, 115, 32, 116, 111, 32, 112, 97, 99, 107, 32, 40, 62, 54, 53, 53, 51, 53, 41]), ("loop.example/pub-domainbytes/pub/dnsmessage.errTooManyAuthorities", [116, 111, 111, 32, 109, 97, 110, 121, 32, 65, 117, 116, 104, 111, 114, 105, 116, 105, 101, 115, 32, 116, 111, 32, 112, 97, 99, 107, 32, 40, 62, 54, 53, 53, 51, 53, 41]), ("loop.example/pub-domainbytes/pub/dnsmessage.errTooManyAdditionals", [116, 111, 111, 32, 109, 97, 110, 121, 32, 65, 100, 100, 105, 116, 105, 111, 110, 97, 108, 115, 32, 116, 111, 32, 112, 97, 99, 107, 32, 40, 62, 54, 53, 53, 51, 53, 41]), ("loop.example/pub-domainbytes/pub/dnsmessage.errNonCanonicalName", [110, 97, 109, 101, 32, 105, 115, 32, 110, 111, 116, 32, 105, 110, 32, 99, 97, 110, 111, 110, 105, 99, 97, 108, 32, 102, 111, 114, 109, 97, 116, 32, 40, 105, 116, 32, 109, 117, 115, 116, 32, 101, 110, 100, 32, 119, 105, 116, 104, 32, 97, 32, 46, 41]), ("loop.example/pub-domainbytes/pub/dnsmessage.errParamOutOfOrder", [112, 97, 114, 97, 109, 101, 116, 101, 114, 32, 111, 117, 116, 32, 111, 102, 32, 111, 114, 100, 101, 114])]
def laidG : List Nat := [0, 1, 6, 7, 12, 11, 10, 8, 15, 14, 18, 9, 19, 20, 2, 3, 4, 5, 17, 16]
theorem laid_is : Rows.fnExactUnpackRow.laid = laidS.map sent ++ [("loop.example/pub-domainbytes/pub/dnsmessage.sectionNames", Rows.laid_loop_example_pub_domainbytes_pub_dnsmessage_sectionNames)] := rfl
theorem laidS_names : laidS.map (fun x => Tryz.prog.globalNamed x.1) = laidG.map some := by kernel_rfl
theorem laidG_types : ∀ g ∈ laidG, (Tryz.prog.globals[g]?).map (·.type) = some 60 := by
 have h : laidG.all (fun g => (Tryz.prog.globals[g]?).map (·.type) == some 60) = true := by kernel_rfl
 intro g hg
 simpa using List.all_eq_true.1 h g hg
theorem errGs_in : ∀ g, errGs.contains g = true → ∃ i : Nat, laidG[i]? = some g := by
 have h : errGs.all (fun g => laidG.contains g) = true := by decide
 intro g hg
 have h2 := List.all_eq_true.1 h g (by simpa using hg)
 have h3 : g ∈ laidG := by simpa using h2
 obtain ⟨i, hi, e⟩ := List.getElem_of_mem h3
 exact ⟨i, by rw [List.getElem?_eq_getElem hi, e]⟩
theorem star : "*" ++ "errors.errorString" = "*errors.errorString" := by decide
theorem rowErr (u : TypeId) (h : Tryz.prog.typeName? 3 u = some "*errors.errorString") : u = 329 :=
 typeName_ptr_named (nm := "errors.errorString") (by rw [star]; kernel_rfl) (by kernel_rfl) (by decide) u (by rw [star]; exact h)
theorem cellsE : Tryz.prog.cellsOf 347 = 1 := by kernel_rfl
theorem cellsStr : Tryz.prog.cellsOf 9 = 1 := by kernel_rfl
theorem lawSec : Tryz.prog.globalNamed "loop.example/pub-domainbytes/pub/dnsmessage.sectionNames" = some 13 := by kernel_rfl
theorem lawSecT : (Tryz.prog.globals[13]?).map (·.type) = some 277 := by kernel_rfl
noncomputable def addrAt (W : World) (g : Nat) : Addr := match W.cell? ⟨g, 0, none⟩ with
 | some (.iface _ (.pointer (some a))) => a
 | _ => ⟨0, 0, none⟩
theorem laidMet_of {W : World} (h : laidMetH Tryz.prog Rows.fnExactUnpackRow.laid W) : laidMet Tryz.prog Rows.fnExactUnpackRow.laid W := by
 unfold laidMetH at h
 rw [show (Rows.fnExactUnpackRow.laid.filter fun x => x.2.handleName?.isSome) = [] from by kernel_rfl] at h
 exact h
theorem gl_of_laid {W : World} (h : laidMetH Tryz.prog Rows.fnExactUnpackRow.laid W) : Gl (addrAt W) (allV W) := by
 obtain ⟨ps, hl, hnd, hrows⟩ := laidMet_of h
 rw [laid_is] at hl
 obtain ⟨al, hal, h1, h2, h3, q, hq, hsub⟩ := laid_app Tryz.underlying60 rowErr Tryz.underlying329 Tryz.underlying347 rfl rfl Tryz.underlying9 cellsE cellsStr _ laidS laidG ps laidS_names laidG_types hl hnd hrows
 have hA : ∀ (i g : Nat) (a : Addr), laidG[i]? = some g → al[i]? = some a → addrAt W g = a := fun i g a hg ha => by
  unfold addrAt; rw [h1 i g a hg ha]
 have hex : ∀ g, errGs.contains g = true → ∃ (i : Nat) (a : Addr), laidG[i]? = some g ∧ al[i]? = some a ∧ addrAt W g = a := fun g hg => by
  obtain ⟨i, hi⟩ := errGs_in g hg
  have hlt : i < al.length := by
   rw [hal]
   rcases Nat.lt_or_ge i laidG.length with h' | h'
   exact h'
   rw [List.getElem?_eq_none h'] at hi; cases hi
  exact ⟨i, al[i], hi, List.getElem?_eq_getElem hlt, hA i g _ hi (List.getElem?_eq_getElem hlt)⟩
 refine ⟨fun g hg => ?_, fun g hg => ?_, fun g g' hg hg' e => ?_, ?_⟩
 obtain ⟨i, a, hi, ha, rfl⟩ := hex g hg
 exact allV_cell (h1 i g _ hi ha)
 obtain ⟨i, a, hi, ha, rfl⟩ := hex g hg
 obtain ⟨c, t, hb⟩ := (hrows _ _ (h2 _ (List.mem_of_getElem? ha))).1
 exact ⟨c, t, hb⟩
 obtain ⟨i, a, hi, ha, rfl⟩ := hex g hg
 obtain ⟨j, a', hj, ha', rfl⟩ := hex g' hg'
 rw [← e] at ha'
 obtain ⟨hil, ei⟩ := List.getElem?_eq_some_iff.1 ha
 have hij : i = j := (List.getElem?_inj (by simpa using hil) h3).1 (by rw [List.getElem?_map, List.getElem?_map, ha, ha'])
 subst hij
 rw [hi] at hj; cases hj; rfl
 obtain ⟨g, t, cs, fuel, p, q', hg, ht, hv, hd, _, _⟩ := hq
 obtain rfl := Option.some.inj (lawSec.symm.trans hg)
 obtain rfl := Option.some.inj (lawSecT.symm.trans ht)
 obtain ⟨m, es, c, hcs, hm, hes⟩ := laid_map Tryz.underlying277 Tryz.underlying51 Tryz.underlying9 hd (by
  intro x hx
  simp only [List.mem_cons, List.not_mem_nil, or_false] at hx
  rcases hx with rfl | rfl | rfl | rfl | rfl <;> exact ⟨_, rfl, by decide⟩)
 refine ⟨m, es, c, allV_cell ?_, hm, fun k => findNow_u8 es.toList 0 k hes⟩
 obtain ⟨l0⟩ := cs
 simp only at hcs
 subst hcs
 simpa using World.var?_cell hg hv 0
end Go.Proofs.YtmigokakpahgkaaGreatDoor
namespace Go.Proofs.YtmigokakpahgkaaGreatDoor
open Go Go.Proofs.YtmigokakpahgkaaGreatDoor Go.ChangeShapes Go.WideShapes Go.RowKit
theorem cellsU8 : Tryz.prog.cellsOf 5 = 1 := by kernel_rfl
theorem cellsInt : Tryz.prog.cellsOf 3 = 1 := by kernel_rfl
theorem laidOut : laidOutB Tryz.prog = true := by kernel_rfl
section
variable {H : Type} {enc : TypeId × Value → H} {W : World} {base : Nat} {v : Value} {d : DataW H} {p : List MemPlace}
theorem open_row1 {P : Program} {t e : TypeId} {k : IntKind} (ht : P.underlying t = some (.slice e)) (he : P.underlying e = some (.int k)) (hc : P.cellsOf e = 1) (hval : Value.okWide P W .any base t v) (h : DataW.Trod enc P W 0 (fun _ => true) true t v d p) :
  ∃ zs : List Int, SlV (allV W) 1 v zs.length (zs.map fun z => .int k z) ∧ ∀ n ∈ zs, (Lit.int k n).wf = true := by
 obtain ⟨a0, len, cap, rfl⟩ := okWide_slice ht hval
 obtain ⟨fuel, hf⟩ := h
 rcases open_ints ht he hc hf with ⟨hcs, _⟩ | ⟨a, len', cap', zs, hcs, _, hl, hm, hz, _, hcell, hwf⟩
 simp [Value.cells] at hcs
 obtain ⟨rfl, rfl, rfl⟩ := hcs
 exact ⟨[], SlV.nil _ 1, fun n h => by cases h⟩
 simp [Value.cells] at hcs
 obtain ⟨rfl, rfl, rfl⟩ := hcs
 have hspot : a.spot = none := by
  unfold Value.okWide at hval
  rw [ht] at hval
  simp only [Cell.okWide, ht, Cell.ok] at hval
  exact hval.2.2.2.1
 simp only [if_true] at hz
 obtain ⟨b, o, sp⟩ := a
 simp only at hspot
 subst hspot
 refine ⟨zs.take len, ⟨by simp, .inr ⟨b, o, cap, ?_, ?_, ?_⟩⟩, fun n hn => hwf n (List.mem_of_mem_take hn)⟩
 rw [List.length_take, hz, Nat.min_eq_left hl]
 rw [List.length_take]; omega
 intro j u hu
 rw [List.getElem?_map] at hu
 obtain ⟨z, hz2, rfl⟩ := Option.map_eq_some_iff.1 hu
 have hjl : j < (zs.take len).length := by
  rcases Nat.lt_or_ge j (zs.take len).length with h' | h'
  exact h'
  rw [List.getElem?_eq_none h'] at hz2; cases hz2
 rw [List.length_take] at hjl
 have := hcell j (by omega)
 rw [add_at] at this
 refine allV_cell ?_
 rw [this]
 rw [List.getElem?_take_of_lt (by omega)] at hz2
 simp [List.getD, hz2]
set_option maxRecDepth 100000 in
theorem bytes_of (hval : Value.okWide Tryz.prog W .any base 22 v) (h : DataW.Trod enc Tryz.prog W 0 (fun _ => true) true 22 v d p) : ∃ l, RB (allV W) v l := by
 obtain ⟨zs, h1, h2⟩ := open_row1 (P := Tryz.prog) Tryz.underlying22 Tryz.underlying5 cellsU8 hval h
 refine ⟨zs.map fun z => UInt8.ofNat z.toNat, ?_⟩
 unfold RB
 have e : (zs.map fun z => UInt8.ofNat z.toNat).map byteVal = zs.map fun z => .int .u8 z := by
  rw [List.map_map]
  refine List.map_congr_left fun z hz => ?_
  have hw := h2 z hz
  have hr : 0 ≤ z ∧ z ≤ 255 := by
   have := hw
   simp [Lit.wf, IntKind.min, IntKind.max, IntKind.signed, IntKind.bits] at this
   omega
  show Value.int .u8 ((UInt8.ofNat z.toNat).toNat : Int) = _
  rw [UInt8.toNat_ofNat_of_lt' (by show z.toNat < 256; omega), Int.toNat_of_nonneg hr.1]
 rw [e, List.length_map]
 exact h1
set_option maxRecDepth 100000 in
theorem ints_of (hval : Value.okWide Tryz.prog W .any base 24 v) (h : DataW.Trod enc Tryz.prog W 0 (fun _ => true) true 24 v d p) : ∃ zs : List Int, SlV (allV W) 1 v zs.length (zs.map fun z => .int .i64 z) := by
 obtain ⟨zs, h1, _⟩ := open_row1 (P := Tryz.prog) Tryz.underlying24 Tryz.underlying3 cellsInt hval h
 exact ⟨zs, h1⟩
end
end Go.Proofs.YtmigokakpahgkaaGreatDoor
namespace Go.Proofs.YtmigokakpahgkaaGreatDoor
open Go Go.Proofs.YtmigokakpahgkaaGreatDoor Go.ChangeShapes Go.WideShapes Go.RowKit
theorem vars_len {H : Type} {enc : TypeId × Value → H} {P : Program} {W : World} {sp : Nat → Bool} : ∀ {ns : List String} {gs : List (DataW H)} {ps : List MemPlace}, DataW.TrodVars enc P W sp ns gs ps → gs.length = ns.length
 | [], [], _, _ => rfl
 | [], _ :: _, _, h => h.elim
 | _ :: _, [], _, h => h.elim
 | n :: ns, d :: ds, ps, h => by
  obtain ⟨g, t, cs, fuel, p, q, _, _, _, _, hs, _⟩ := h
  simp [vars_len hs]
end Go.Proofs.YtmigokakpahgkaaGreatDoor

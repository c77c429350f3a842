/- An argument that is a message: its pairs, records, questions, head. The guards on sizes: they return. A parser that is started, and no more. The law's guard packs(), for the packing laws. What is read may be packed: sizes of a message that was read. -/
import Derived.Test.YtgpfjlfkaoffeaaGreatDoorR31
import Derived.Test.YtgpfjlfkaoffeaaGreatDoorR21
import Derived.Test.YtgpfjlfkaoffeaaGreatDoorR24
import Derived.Test.YtgpfjlfkaoffeaaGreatDoorR22
import Derived.Test.YtgpfjlfkaoffeaaGreatDoorR13
set_option linter.all false
namespace Go.Proofs.YtgpfjlfkaoffeaaGreatDoor
open Go Go.Proofs.YtgpfjlfkaoffeaaGreatDoor Go.ChangeShapes Go.WideShapes Go.RowKit Go.Deep
theorem cellsPair : Tryz.prog.cellsOf 25 = 2 := by kernel_rfl
theorem cellsRec : Tryz.prog.cellsOf 30 = 16 := by kernel_rfl
theorem cellsAsk : Tryz.prog.cellsOf 77 = 3 := by kernel_rfl
theorem cellsHead : Tryz.prog.cellsOf 33 = 10 := by kernel_rfl
theorem cellsMsg : Tryz.prog.cellsOf 36 = 14 := by kernel_rfl
theorem cellsAsks : Tryz.prog.cellsOf 34 = 1 := by kernel_rfl
theorem cellsRecs : Tryz.prog.cellsOf 31 = 1 := by kernel_rfl
section
variable {H : Type} {enc : TypeId × Value → H} {W : World}
theorem open_pair : Opens enc Tryz.prog W 25 (RPairW (allV W)) (fun p => p.data.length + 4) := by
 intro fuel cs x h
 obtain ⟨m, V, Y, hcs, hx, hf⟩ := open_one (n := 2) Tryz.underlying25 rfl (by kernel_rfl) cellsPair h
 obtain ⟨k, e0, b0⟩ := open_nat16 Tryz.underlying22 (hf 0 _ rfl)
 obtain ⟨l, ⟨v, e1, hl⟩, b1⟩ := open_bytes Tryz.underlying23 Tryz.underlying5 cellsU8 _ _ _ (hf 1 _ rfl)
 have e1 := List.head_eq_of_cons_eq e1
 refine ⟨⟨k, l⟩, ⟨v, ?_, hl⟩, ?_⟩
 rw [hcs]
 show [V 0, V 1] = _
 rw [e0, e1]
 rw [hx]
 simp only [List.range, List.range.loop, List.map_cons, List.map_nil, Rows.uptoBulk, Rows.uptoBulkAll]
 show l.length + 4 ≤ _
 omega
theorem open_pairs : Opens enc Tryz.prog W 26 (fun (l : List fU) cs => ∃ v, cs = [v] ∧ RPairsW (allV W) v l) (fun l => (eX l).length) := by
 intro fuel cs x h
 obtain ⟨l, ⟨v, xs, h1, h2, h3⟩, h4⟩ := open_rows Tryz.underlying26 cellsPair (by decide) open_pair _ _ _ h
 refine ⟨l, ⟨v, h1, xs, h2, h3⟩, Nat.le_trans (Nat.le_of_eq ?_) h4⟩
 unfold eX
 clear h1 h2 h3 h4 h
 induction l with
 | nil => rfl
 | cons a l ih =>
  simp only [List.map_cons, List.flatten_cons, List.length_append, List.sum_cons, ih, eP]
  omega
set_option maxHeartbeats 1000000 in
theorem open_rec : Opens enc Tryz.prog W 30 (RRecK (allV W)) sizeR := by
 intro fuel cs x h
 obtain ⟨m, V, Y, hcs, hx, hf⟩ := open_one (n := 16) Tryz.underlying30 rfl (by kernel_rfl) cellsRec h
 obtain ⟨name, e0, b0⟩ := open_str1 Tryz.underlying9 (hf 0 _ rfl)
 obtain ⟨ty, e1, b1⟩ := open_nat16 Tryz.underlying22 (hf 1 _ rfl)
 obtain ⟨cls, e2, b2⟩ := open_nat16 Tryz.underlying22 (hf 2 _ rfl)
 obtain ⟨ttl, e3, b3⟩ := open_nat32 Tryz.underlying27 (hf 3 _ rfl)
 obtain ⟨len, e4, b4⟩ := open_nat16 Tryz.underlying22 (hf 4 _ rfl)
 obtain ⟨k, e5, b5⟩ := open_int1 Tryz.underlying3 (hf 5 _ rfl)
 obtain ⟨data, ⟨vd, e6, hd⟩, b6⟩ := open_bytes Tryz.underlying23 Tryz.underlying5 cellsU8 _ _ _ (hf 6 _ rfl)
 obtain ⟨host, e7, b7⟩ := open_str1 Tryz.underlying9 (hf 7 _ rfl)
 obtain ⟨box, e8, b8⟩ := open_str1 Tryz.underlying9 (hf 8 _ rfl)
 obtain ⟨n1, e9, b9⟩ := open_nat32 Tryz.underlying27 (hf 9 _ rfl)
 obtain ⟨n2, e10, b10⟩ := open_nat32 Tryz.underlying27 (hf 10 _ rfl)
 obtain ⟨n3, e11, b11⟩ := open_nat32 Tryz.underlying27 (hf 11 _ rfl)
 obtain ⟨n4, e12, b12⟩ := open_nat32 Tryz.underlying27 (hf 12 _ rfl)
 obtain ⟨n5, e13, b13⟩ := open_nat32 Tryz.underlying27 (hf 13 _ rfl)
 obtain ⟨texts, ⟨vt, e14, ht⟩, b14⟩ := open_texts Tryz.underlying28 Tryz.underlying9 cellsStr _ _ _ (hf 14 _ rfl)
 obtain ⟨pairs, ⟨vp, e15, hp⟩, b15⟩ := open_pairs _ _ _ (hf 15 _ rfl)
 have e6 := List.head_eq_of_cons_eq e6
 have e14 := List.head_eq_of_cons_eq e14
 have e15 := List.head_eq_of_cons_eq e15
 refine ⟨{ name := name, type := ty, cls := cls, ttl := ttl, length := len, kind := if 1 ≤ k ∧ k ≤ 13 then k.toNat else 0, data := data, host := host, box := box, n1 := n1, n2 := n2, n3 := n3, n4 := n4, n5 := n5, texts := texts, pairs := pairs }, ⟨k, vd, vt, vp, ?_, ?_, hd, ht, hp⟩, ?_⟩
 rw [hcs]
 show [V 0, V 1, V 2, V 3, V 4, V 5, V 6, V 7, V 8, V 9, V 10, V 11, V 12, V 13, V 14, V 15] = _
 rw [e0, e1, e2, e3, e4, e5, e6, e7, e8, e9, e10, e11, e12, e13, e14, e15]
 rfl
 unfold KindI
 by_cases hk : 1 ≤ k ∧ k ≤ 13
 left
 simp only [hk, and_self, if_true]
 omega
 right
 simp only [hk, if_false, true_and]
 omega
 rw [hx]
 simp only [List.range, List.range.loop, List.map_cons, List.map_nil, Rows.uptoBulk, Rows.uptoBulkAll]
 show name.length + host.length + box.length + data.length + 40 + (fE texts).length + (eX pairs).length ≤ _
 have b14 : (fE texts).length ≤ 4 * Rows.uptoBulk (Y 14).1 := b14
 have b15 : (eX pairs).length ≤ 4 * Rows.uptoBulk (Y 15).1 := b15
 omega
theorem open_recs : Opens enc Tryz.prog W 31 (fun (l : List fY) cs => ∃ v, cs = [v] ∧ RRecsK (allV W) v l) sizeL := by
 intro fuel cs x h
 obtain ⟨l, ⟨v, xs, h1, h2, h3⟩, h4⟩ := open_rows Tryz.underlying31 cellsRec (by decide) open_rec _ _ _ h
 refine ⟨l, ⟨v, h1, xs, h2, h3⟩, ?_⟩
 unfold sizeL sumT
 rwa [List.take_length]
theorem open_ask : Opens enc Tryz.prog W 77 (fun a c => c = askC a) askS := by
 intro fuel cs x h
 obtain ⟨m, V, Y, hcs, hx, hf⟩ := open_one (n := 3) Tryz.underlying77 rfl (by kernel_rfl) cellsAsk h
 obtain ⟨name, e0, b0⟩ := open_str1 Tryz.underlying9 (hf 0 _ rfl)
 obtain ⟨ty, e1, b1⟩ := open_nat16 Tryz.underlying22 (hf 1 _ rfl)
 obtain ⟨cls, e2, b2⟩ := open_nat16 Tryz.underlying22 (hf 2 _ rfl)
 refine ⟨⟨name, ty, cls⟩, ?_, ?_⟩
 rw [hcs]
 show [V 0, V 1, V 2] = _
 rw [e0, e1, e2]
 rfl
 rw [hx]
 simp only [List.range, List.range.loop, List.map_cons, List.map_nil, Rows.uptoBulk, Rows.uptoBulkAll]
 show name.length + 6 ≤ _
 omega
theorem open_asks : Opens enc Tryz.prog W 34 (fun (l : List PAsk) cs => ∃ v, cs = [v] ∧ RAsksW (allV W) v l) (fun l => sumT askS l l.length) := by
 intro fuel cs x h
 obtain ⟨l, ⟨v, xs, h1, h2, h3⟩, h4⟩ := open_rows Tryz.underlying34 cellsAsk (by decide) open_ask _ _ _ h
 refine ⟨l, ⟨v, h1, xs, h2, h3⟩, ?_⟩
 show sumT askS l l.length ≤ _
 unfold sumT
 rwa [List.take_length]
set_option maxHeartbeats 1000000 in
theorem open_head {fuel : Nat} {cs : List Value} {x : DataW H × List MemPlace} (h : DataW.trod enc Tryz.prog W 0 (fun _ => true) true fuel 33 cs = some x) : ∃ h : PHead, cs = fJ h := by
 obtain ⟨m, V, Y, hcs, hx, hf⟩ := open_one (n := 10) Tryz.underlying33 rfl (by kernel_rfl) cellsHead h
 obtain ⟨id, e0, _⟩ := open_nat16 Tryz.underlying22 (hf 0 _ rfl)
 obtain ⟨r1, e1⟩ := open_bool1 Tryz.underlying4 (hf 1 _ rfl)
 obtain ⟨op, e2, _⟩ := open_nat16 Tryz.underlying22 (hf 2 _ rfl)
 obtain ⟨r3, e3⟩ := open_bool1 Tryz.underlying4 (hf 3 _ rfl)
 obtain ⟨r4, e4⟩ := open_bool1 Tryz.underlying4 (hf 4 _ rfl)
 obtain ⟨r5, e5⟩ := open_bool1 Tryz.underlying4 (hf 5 _ rfl)
 obtain ⟨r6, e6⟩ := open_bool1 Tryz.underlying4 (hf 6 _ rfl)
 obtain ⟨r7, e7⟩ := open_bool1 Tryz.underlying4 (hf 7 _ rfl)
 obtain ⟨r8, e8⟩ := open_bool1 Tryz.underlying4 (hf 8 _ rfl)
 obtain ⟨code, e9, _⟩ := open_nat16 Tryz.underlying22 (hf 9 _ rfl)
 refine ⟨⟨id, r1, op, r3, r4, r5, r6, r7, r8, code⟩, ?_⟩
 rw [hcs]
 show [V 0, V 1, V 2, V 3, V 4, V 5, V 6, V 7, V 8, V 9] = _
 rw [e0, e1, e2, e3, e4, e5, e6, e7, e8, e9]
 rfl
theorem split14 {l : List Value} (h : l.length = 14) : l = (l.drop 0).take 10 ++ ((l.drop 10).take 1 ++ ((l.drop 11).take 1 ++ ((l.drop 12).take 1 ++ (l.drop 13).take 1))) := by
 match l, h with
 | [_, _, _, _, _, _, _, _, _, _, _, _, _, _], _ => rfl
theorem piece {β : Type} {g : List Value → Option β} {l : List Value} {c k i : Nat} {xs : List β} (hc : c = k) (hi : i < xs.length) (h : g (l.take c) = xs[i]?) : g (l.take k) = some xs[i] := by
 rw [← hc, h, List.getElem?_eq_getElem hi]
theorem bulk_five {l : List (DataW H)} {a b c d e : DataW H} (h : l = [a, b, c, d, e]) : Rows.uptoBulk b + Rows.uptoBulk c + Rows.uptoBulk d + Rows.uptoBulk e ≤ Rows.uptoBulk (.agg l) := by
 subst h
 simp only [Rows.uptoBulk, Rows.uptoBulkAll]
 omega
theorem list_five {α : Type} {l : List α} (h : l.length = 5) : l = [l[0], l[1], l[2], l[3], l[4]] := by
 match l, h with
 | [_, _, _, _, _], _ => rfl
set_option maxRecDepth 100000 in
set_option maxHeartbeats 1000000 in
theorem msg_of {base : Nat} {v : Value} {d : DataW H} {p : List MemPlace} (hval : Value.okWide Tryz.prog W .any base 36 v) (h : DataW.Trod enc Tryz.prog W 0 (fun _ => true) true 36 v d p) :
  ∃ m va v1 v2 v3, v = .agg (fJ m.head ++ [va, v1, v2, v3]).toArray ∧ RAsksW (allV W) va m.asks ∧ RRecsK (allV W) v1 m.answers ∧ RRecsK (allV W) v2 m.authorities ∧ RRecsK (allV W) v3 m.additionals ∧ sizeM m ≤ 12 + 4 * Rows.uptoBulk d := by
 obtain ⟨cs, rfl, _⟩ := okWide_struct Tryz.underlying36 hval
 obtain ⟨fuel, h⟩ := h
 obtain ⟨xs, n, _, hx, hcl, hxl, hf⟩ := DataW.trod_struct Tryz.underlying36 h
 have hl : cs.toList.length = 14 := by rw [← cellsMsg]; exact hcl
 have hxl : xs.length = 5 := hxl
 have g0 := hf 0 _ rfl
 have f0 := piece (g := DataW.trod enc Tryz.prog W 0 (fun _ => true) true n 33) (l := cs.toList.drop 0) cellsHead (by omega) g0
 have g1 := hf 1 _ rfl
 have f1 := piece (g := DataW.trod enc Tryz.prog W 0 (fun _ => true) true n 34) (l := cs.toList.drop 10) cellsAsks (by omega) g1
 have g2 := hf 2 _ rfl
 have f2 := piece (g := DataW.trod enc Tryz.prog W 0 (fun _ => true) true n 31) (l := cs.toList.drop 11) cellsRecs (by omega) g2
 have g3 := hf 3 _ rfl
 have f3 := piece (g := DataW.trod enc Tryz.prog W 0 (fun _ => true) true n 31) (l := cs.toList.drop 12) cellsRecs (by omega) g3
 have g4 := hf 4 _ rfl
 have f4 := piece (g := DataW.trod enc Tryz.prog W 0 (fun _ => true) true n 31) (l := cs.toList.drop 13) cellsRecs (by omega) g4
 obtain ⟨hd, e0⟩ := open_head f0
 obtain ⟨la, ⟨va, e1, h1⟩, b1⟩ := open_asks _ _ _ f1
 obtain ⟨l1, ⟨v1, e2, h2⟩, b2⟩ := open_recs _ _ _ f2
 obtain ⟨l2, ⟨v2, e3, h3⟩, b3⟩ := open_recs _ _ _ f3
 obtain ⟨l3, ⟨v3, e4, h4⟩, b4⟩ := open_recs _ _ _ f4
 have hs := split14 hl
 refine ⟨⟨hd, la, l1, l2, l3⟩, va, v1, v2, v3, ?_, h1, h2, h3, h4, ?_⟩
 refine congrArg Value.agg (Array.ext' ?_)
 show cs.toList = fJ hd ++ [va, v1, v2, v3]
 rw [hs, e0, e1, e2, e3, e4]
 rfl
 have hd1 : d = .agg (xs.map (·.1)) := (Prod.mk.inj hx).1
 have this : Rows.uptoBulk xs[1].1 + Rows.uptoBulk xs[2].1 + Rows.uptoBulk xs[3].1 + Rows.uptoBulk xs[4].1 ≤ Rows.uptoBulk (.agg (xs.map (·.1))) := bulk_five (congrArg (List.map (·.1)) (list_five hxl))
 have b1 : sumT askS la la.length ≤ 4 * Rows.uptoBulk xs[1].1 := b1
 rw [hd1]
 show 12 + sumT askS la la.length + sizeL l1 + sizeL l2 + sizeL l3 ≤ _
 omega
end
end Go.Proofs.YtgpfjlfkaoffeaaGreatDoor
namespace Go.Proofs.YtgpfjlfkaoffeaaGreatDoor
open Go
theorem sizeR_mem {l : List fY} {r : fY} (h : r ∈ l) : sizeR r ≤ sizeL l := by
 unfold sizeL sumT
 rw [List.take_length]
 induction l with
 | nil => cases h
 | cons a l ih =>
  simp only [List.map_cons, List.sum_cons]
  rcases List.mem_cons.1 h with rfl | h
  omega
  have := ih h; omega
theorem recs_in {l : List fY} {n : Nat} (h : sizeL l ≤ n) : ∀ r ∈ l, r.texts.length ≤ n ∧ r.pairs.length ≤ n := fun r hr => by
 have h1 := sizeR_mem hr
 have h2 := textsP_cnt r.texts
 have h3 := pairsP_cnt r.pairs
 unfold sizeR at h1
 omega
def SomeB (V : Vw) (w0 : World) (v : Value) (w' : World) : Prop := ∃ b : Bool, v = .bool b ∧ St ⟨w0, V, V⟩ w' []
section
variable {V : Vw} {w0 : World}
theorem z_fits3 (hV : V.In w0) (a : PAsk) : eC Tryz.prog 48 #[.agg (askC a).toArray] w0 (SomeB V w0) := by
 have hs := St.start hV
 refine aT [_] Tryz.func48 Tryz.ntmps48 Tryz.results48 rfl rfl (dP (aJ (cR hs rfl rfl rfl (fun b1 w hb1 hbe1 hs => dN rfl rfl (aH (aF (dP (lp (aR fo_77_0 rfl) rfl (lp (aO rfl (aQ k_9 (hs.g 0 rfl) rfl)) rfl (lp (po_lenS Tryz.underlying9 rfl) rfl (lp (cQ rfl rfl) rfl (aH (bH rfl (fun hc0 => ?_) (fun hc0 => ?_))))))))))))))
 refine dP (dN rfl rfl (aH (aV ⟨_, fW rfl, ?_⟩)))
 exact ⟨_, rfl, hs.drop hb1⟩
 refine aW (dP (dN rfl rfl (aH (aV ⟨_, fW rfl, ?_⟩))))
 exact ⟨_, rfl, hs.drop hb1⟩
theorem z_fits8 (hV : V.In w0) {k : Nat} {d : List UInt8} {vd : Value} (hd : RBW V vd d) : eC Tryz.prog 173 #[.agg [.int .u16 k, vd].toArray] w0 (SomeB V w0) := by
 obtain ⟨a, c, rfl, _⟩ := SlW.form hd
 have hs := St.start hV
 refine aT [_] Tryz.func173 Tryz.ntmps173 Tryz.results173 rfl rfl (dP (aJ (cR hs rfl rfl rfl (fun b1 w hb1 hbe1 hs => dN rfl rfl (aH (aF (dP (lp (aR fo_25_1 rfl) rfl (lp (aO rfl (aQ k_23 (hs.g 0 rfl) rfl)) rfl (lp (bC Tryz.underlying23 rfl) rfl (lp (cQ rfl rfl) rfl (aH (bH rfl (fun hc0 => ?_) (fun hc0 => ?_))))))))))))))
 refine dP (dN rfl rfl (aH (aV ⟨_, fW rfl, ?_⟩)))
 exact ⟨_, rfl, hs.drop hb1⟩
 refine aW (dP (dN rfl rfl (aH (aV ⟨_, fW rfl, ?_⟩))))
 exact ⟨_, rfl, hs.drop hb1⟩
set_option maxHeartbeats 1000000 in
theorem z_fits2 (hV : V.In w0) {v : Value} {l : List PAsk} (hR : RAsksW V v l) (hn : l.length ≤ 4611686018427387904) : eC Tryz.prog 21 #[v] w0 (SomeB V w0) := by
 obtain ⟨xs, hS, hRw⟩ := hR
 obtain ⟨a, cap, rfl, _, hc⟩ := hS.form
 have hs := St.start hV
 refine aT [_] Tryz.func21 Tryz.ntmps21 Tryz.results21 rfl rfl (dP (dN rfl rfl (aH (aF (dP (dM rfl rfl (lp (bC Tryz.underlying34 rfl) rfl (lp (cQ rfl rfl) rfl (aH (bH rfl (fun hc0 => ?_) (fun hc0 => ?_)))))))))))
 refine dP (dN rfl rfl (aH (aV ⟨_, fW rfl, ?_⟩)))
 exact ⟨_, rfl, hs⟩
 refine aW (aF (dP (dM rfl rfl (lp (bC Tryz.underlying34 rfl) rfl (dM rfl rfl (aH (bQ (dC (fun j : Nat => eH (eH (eH emp 10 (.int .i64 j)) 9 (.int .i64 l.length)) 8 (.slice a l.length cap)) (fun j w => St ⟨w0, V, V⟩ w [] ∧ j ≤ l.length) (fun j => l.length - j) 0 (aL rfl (aL rfl (aL rfl (bG _)))) ⟨hs, Nat.zero_le _⟩ ?_))))))))
 clear hs
 rintro j w ⟨hs, hj⟩
 refine dP (lp (cY rfl rfl) rfl (aH (aF (bH rfl (fun hc1 => ?_) (fun hc1 => ?_)))))
 have hjl : j < l.length := by omega
 obtain ⟨b, p, rfl, hcells⟩ := hc (by omega)
 obtain ⟨cr, rfl, hcl, hctt⟩ := hRw.at (List.getElem?_eq_getElem hjl)
 refine aW (aF (bQ (dP (lp (eZ j (p + j * 3) es_34 rfl rfl rfl hjl rfl) rfl ?_))))
 refine lp (aO rfl (ld_cells (l := askC l[j]) k_77 rfl (fun i u hu => by
  rw [Nat.add_assoc]
  exact Vw.cell_in hs.isIn (hcells _ _ (fN hctt hu))))) rfl ?_
 refine aJ (aX hs z_77 rfl (fun b4 w hb4 he4 hs => aJ (dR 0 hs k_77 rfl rfl rfl rfl rfl (askC_flat _) rfl (fun w hs => aH (dP (lp (aO rfl (aP k_77 (hs.g 0 rfl) rfl)) rfl (aZ ok_48 rfl rfl (z_fits3 hs.isIn l[j]) rfl (fun v15 w HF => ?_))))))))
 obtain ⟨bb, rfl, hc⟩ := HF
 replace hs := hs.frame hc
 refine lp (cS rfl) rfl (aH (bJ rfl (fun hc2 => ?_) (fun hc2 => ?_)))
 refine dP (dN rfl rfl (aH (aV ⟨_, fW rfl, ?_⟩)))
 exact ⟨_, rfl, hs.drop hb4⟩
 refine aW (aB (lp (bN rfl rfl (fV (c := j + 1) (by omega) (by have := hn; omega))) rfl (dM rfl rfl (aH ?_))))
 exact ⟨j + 1, aL rfl (aL rfl (aL rfl (bG _))), ⟨hs.drop hb4, hjl⟩, by omega⟩
 refine eT (dP (dN rfl rfl (aH (aV ⟨_, fW rfl, ?_⟩))))
 exact ⟨_, rfl, hs⟩
set_option maxHeartbeats 1000000 in
theorem z_fits7 (hV : V.In w0) {v : Value} {l : List fU} (hR : RPairsW V v l) (hn : l.length ≤ 4611686018427387904) : eC Tryz.prog 117 #[v] w0 (SomeB V w0) := by
 obtain ⟨xs, hS, hRw⟩ := hR
 obtain ⟨a, cap, rfl, _, hc⟩ := hS.form
 have hs := St.start hV
 refine aT [_] Tryz.func117 Tryz.ntmps117 Tryz.results117 rfl rfl (dP (dN rfl rfl (aH (aF (dP (dM rfl rfl (lp (bC Tryz.underlying26 rfl) rfl (lp (cQ rfl rfl) rfl (aH (bH rfl (fun hc0 => ?_) (fun hc0 => ?_)))))))))))
 refine dP (dN rfl rfl (aH (aV ⟨_, fW rfl, ?_⟩)))
 exact ⟨_, rfl, hs⟩
 refine aW (aF (dP (dM rfl rfl (lp (bC Tryz.underlying26 rfl) rfl (dM rfl rfl (aH (bQ (dC (fun j : Nat => eH (eH (eH emp 10 (.int .i64 j)) 9 (.int .i64 l.length)) 8 (.slice a l.length cap)) (fun j w => St ⟨w0, V, V⟩ w [] ∧ j ≤ l.length) (fun j => l.length - j) 0 (aL rfl (aL rfl (aL rfl (bG _)))) ⟨hs, Nat.zero_le _⟩ ?_))))))))
 clear hs
 rintro j w ⟨hs, hj⟩
 refine dP (lp (cY rfl rfl) rfl (aH (aF (bH rfl (fun hc1 => ?_) (fun hc1 => ?_)))))
 have hjl : j < l.length := by omega
 obtain ⟨b, p, rfl, hcells⟩ := hc (by omega)
 obtain ⟨cr, ⟨vq, rfl, hRB⟩, hcl, hctt⟩ := hRw.at (List.getElem?_eq_getElem hjl)
 have hoc := hRB.oneCell
 refine aW (aF (bQ (dP (lp (eZ j (p + j * 2) es_26 rfl rfl rfl hjl rfl) rfl ?_))))
 refine lp (aO rfl (ld_cells (l := [.int .u16 l[j].key, vq]) k_25 rfl (fun i u hu => by
  rw [Nat.add_assoc]
  exact Vw.cell_in hs.isIn (hcells _ _ (fN hctt hu))))) rfl ?_
 refine aJ (aX hs z_25 rfl (fun b4 w hb4 he4 hs => aJ (dR 0 hs k_25 rfl rfl rfl rfl rfl (bX rfl (bX hoc eQ)) rfl (fun w hs => aH (dP (lp (aO rfl (aP k_25 (hs.g 0 rfl) rfl)) rfl (aZ ok_173 rfl rfl (z_fits8 hs.isIn hRB) rfl (fun v15 w HF => ?_))))))))
 obtain ⟨bb, rfl, hc⟩ := HF
 replace hs := hs.frame hc
 refine lp (cS rfl) rfl (aH (bJ rfl (fun hc2 => ?_) (fun hc2 => ?_)))
 refine dP (dN rfl rfl (aH (aV ⟨_, fW rfl, ?_⟩)))
 exact ⟨_, rfl, hs.drop hb4⟩
 refine aW (aB (lp (bN rfl rfl (fV (c := j + 1) (by omega) (by have := hn; omega))) rfl (dM rfl rfl (aH ?_))))
 exact ⟨j + 1, aL rfl (aL rfl (aL rfl (bG _))), ⟨hs.drop hb4, hjl⟩, by omega⟩
 refine eT (dP (dN rfl rfl (aH (aV ⟨_, fW rfl, ?_⟩))))
 exact ⟨_, rfl, hs⟩
set_option maxHeartbeats 1000000 in
theorem z_fits6 (hV : V.In w0) {v : Value} {l : List (List UInt8)} (hR : RTextsW V v l) (hn : l.length ≤ 4611686018427387904) : eC Tryz.prog 116 #[v] w0 (SomeB V w0) := by
 obtain ⟨a, cap, rfl, _, hc⟩ := SlW.form hR
 have hs := St.start hV
 refine aT [_] Tryz.func116 Tryz.ntmps116 Tryz.results116 rfl rfl (dP (dN rfl rfl (aH (aF (dP (dM rfl rfl (lp (bC Tryz.underlying28 rfl) rfl (lp (cQ rfl rfl) rfl (aH (bH rfl (fun hc0 => ?_) (fun hc0 => ?_)))))))))))
 refine dP (dN rfl rfl (aH (aV ⟨_, fW rfl, ?_⟩)))
 exact ⟨_, rfl, hs⟩
 refine aW (aF (dP (dM rfl rfl (lp (bC Tryz.underlying28 rfl) rfl (dM rfl rfl (aH (bQ (dC (fun j : Nat => eH (eH (eH emp 10 (.int .i64 j)) 9 (.int .i64 l.length)) 8 (.slice a l.length cap)) (fun j w => St ⟨w0, V, V⟩ w [] ∧ j ≤ l.length) (fun j => l.length - j) 0 (aL rfl (aL rfl (aL rfl (bG _)))) ⟨hs, Nat.zero_le _⟩ ?_))))))))
 clear hs
 rintro j w ⟨hs, hj⟩
 refine dP (lp (cY rfl rfl) rfl (aH (aF (bH rfl (fun hc1 => ?_) (fun hc1 => ?_)))))
 have hjl : j < l.length := by omega
 obtain ⟨b, p, rfl, hcells⟩ := hc (by omega)
 skip
 refine aW (aF (bQ (dP (lp (eZ j (p + j) es_28 rfl rfl rfl hjl (by omega)) rfl (lp (aO rfl (bR (v := fR l[j]) k_9 (Vw.cell_in hs.isIn (hcells j _ (by simp [hjl]))))) rfl (dN rfl rfl (aH (dP (dM rfl rfl (lp (po_lenS Tryz.underlying9 rfl) rfl (lp (cQ rfl rfl) rfl (aH (bH rfl (fun hc2 => ?_) (fun hc2 => ?_))))))))))))))
 refine dP (dN rfl rfl (aH (aV ⟨_, fW rfl, ?_⟩)))
 exact ⟨_, rfl, hs⟩
 refine aW (aB (lp (bN rfl rfl (fV (c := j + 1) (by omega) (by have := hn; omega))) rfl (dM rfl rfl (aH ?_))))
 exact ⟨j + 1, aL rfl (aL rfl (aL rfl (bG _))), ⟨hs, hjl⟩, by omega⟩
 refine eT (dP (dN rfl rfl (aH (aV ⟨_, fW rfl, ?_⟩))))
 exact ⟨_, rfl, hs⟩
set_option maxHeartbeats 2000000 in
theorem z_fits5 (hV : V.In w0) {r : fY} {k : Int} {vd vt vp : Value} (hD : RBW V vd r.data) (hT : RTextsW V vt r.texts) (hP : RPairsW V vp r.pairs) (hn1 : r.texts.length ≤ 4611686018427387904) (hn2 : r.pairs.length ≤ 4611686018427387904) :
  eC Tryz.prog 49 #[.agg (recK r k vd vt vp).toArray] w0 (SomeB V w0) := by
 obtain ⟨ad, cd, rfl, _⟩ := SlW.form hD
 have hs := St.start hV
 refine aT [_] Tryz.func49 Tryz.ntmps49 Tryz.results49 rfl rfl (dP (aJ (cR hs rfl rfl rfl (fun b1 w hb1 hbe1 hs => dN rfl rfl (aH (aF (dP (lp (aR fo_30_0 rfl) rfl (lp (aO rfl (aQ k_9 (hs.g 0 rfl) rfl)) rfl (lp (po_lenS Tryz.underlying9 rfl) rfl (lp (cQ rfl rfl) rfl (aH (bH rfl (fun hc0 => ?_) (fun hc0 => ?_))))))))))))))
 refine dP (dN rfl rfl (aH (aV ⟨_, fW rfl, ?_⟩)))
 exact ⟨_, rfl, hs.drop hb1⟩
 refine aW (aF (dP (lp (aR fo_30_6 rfl) rfl (lp (aO rfl (aQ k_23 (hs.g 0 rfl) rfl)) rfl (lp (bC Tryz.underlying23 rfl) rfl (lp (cQ rfl rfl) rfl (aH (bH rfl (fun hc1 => ?_) (fun hc1 => ?_)))))))))
 refine dP (dN rfl rfl (aH (aV ⟨_, fW rfl, ?_⟩)))
 exact ⟨_, rfl, hs.drop hb1⟩
 refine aW (aF (dP (lp (aR fo_30_7 rfl) rfl (lp (aO rfl (aQ k_9 (hs.g 0 rfl) rfl)) rfl (lp (po_lenS Tryz.underlying9 rfl) rfl (lp (cQ rfl rfl) rfl (aH (bH rfl (fun hc2 => ?_) (fun hc2 => ?_)))))))))
 refine dP (dN rfl rfl (aH (aV ⟨_, fW rfl, ?_⟩)))
 exact ⟨_, rfl, hs.drop hb1⟩
 refine aW (aF (dP (lp (aR fo_30_8 rfl) rfl (lp (aO rfl (aQ k_9 (hs.g 0 rfl) rfl)) rfl (lp (po_lenS Tryz.underlying9 rfl) rfl (lp (cQ rfl rfl) rfl (aH (bH rfl (fun hc3 => ?_) (fun hc3 => ?_)))))))))
 refine dP (dN rfl rfl (aH (aV ⟨_, fW rfl, ?_⟩)))
 exact ⟨_, rfl, hs.drop hb1⟩
 refine aW (aF (dP (lp (aR fo_30_14 rfl) rfl (lp (aO rfl (aQ k_28 (hs.g 0 rfl) rfl)) rfl (aZ ok_116 rfl rfl (z_fits6 hs.isIn hT hn1) rfl (fun v21 w HF => ?_))))))
 obtain ⟨bb, rfl, hc⟩ := HF
 replace hs := hs.frame hc
 refine lp (cS rfl) rfl (aH (bJ rfl (fun hc4 => ?_) (fun hc4 => ?_)))
 refine dP (dN rfl rfl (aH (aV ⟨_, fW rfl, ?_⟩)))
 exact ⟨_, rfl, hs.drop hb1⟩
 refine aW (aF (dP (lp (aR fo_30_15 rfl) rfl (lp (aO rfl (aQ k_26 (hs.g 0 rfl) rfl)) rfl (aZ ok_117 rfl rfl (z_fits7 hs.isIn hP hn2) rfl (fun v25 w HF => ?_))))))
 obtain ⟨bb, rfl, hc⟩ := HF
 replace hs := hs.frame hc
 refine lp (cS rfl) rfl (aH (bJ rfl (fun hc5 => ?_) (fun hc5 => ?_)))
 refine dP (dN rfl rfl (aH (aV ⟨_, fW rfl, ?_⟩)))
 exact ⟨_, rfl, hs.drop hb1⟩
 refine aW (dP (dN rfl rfl (aH (aV ⟨_, fW rfl, ?_⟩))))
 exact ⟨_, rfl, hs.drop hb1⟩
set_option maxHeartbeats 1000000 in
theorem z_fits4 (hV : V.In w0) {v : Value} {l : List fY} (hR : RRecsK V v l) (hn : l.length ≤ 4611686018427387904) (hm : ∀ r ∈ l, r.texts.length ≤ 4611686018427387904 ∧ r.pairs.length ≤ 4611686018427387904) : eC Tryz.prog 22 #[v] w0 (SomeB V w0) := by
 obtain ⟨xs, hS, hRw⟩ := hR
 obtain ⟨a, cap, rfl, _, hc⟩ := hS.form
 have hs := St.start hV
 refine aT [_] Tryz.func22 Tryz.ntmps22 Tryz.results22 rfl rfl (dP (dN rfl rfl (aH (aF (dP (dM rfl rfl (lp (bC Tryz.underlying31 rfl) rfl (lp (cQ rfl rfl) rfl (aH (bH rfl (fun hc0 => ?_) (fun hc0 => ?_)))))))))))
 refine dP (dN rfl rfl (aH (aV ⟨_, fW rfl, ?_⟩)))
 exact ⟨_, rfl, hs⟩
 refine aW (aF (dP (dM rfl rfl (lp (bC Tryz.underlying31 rfl) rfl (dM rfl rfl (aH (bQ (dC (fun j : Nat => eH (eH (eH emp 10 (.int .i64 j)) 9 (.int .i64 l.length)) 8 (.slice a l.length cap)) (fun j w => St ⟨w0, V, V⟩ w [] ∧ j ≤ l.length) (fun j => l.length - j) 0 (aL rfl (aL rfl (aL rfl (bG _)))) ⟨hs, Nat.zero_le _⟩ ?_))))))))
 clear hs
 rintro j w ⟨hs, hj⟩
 refine dP (lp (cY rfl rfl) rfl (aH (aF (bH rfl (fun hc1 => ?_) (fun hc1 => ?_)))))
 have hjl : j < l.length := by omega
 obtain ⟨b, p, rfl, hcells⟩ := hc (by omega)
 obtain ⟨cr, ⟨k, vd, vt, vp, rfl, hkd, hD, hT, hP⟩, hcl, hctt⟩ := hRw.at (List.getElem?_eq_getElem hjl)
 have hflat := (RRecK.flat (V := V) ⟨k, vd, vt, vp, rfl, hkd, hD, hT, hP⟩).1
 have hmm := hm _ (List.getElem_mem hjl)
 refine aW (aF (bQ (dP (lp (eZ j (p + j * 16) es_31 rfl rfl rfl hjl rfl) rfl ?_))))
 refine lp (aO rfl (ld_cells (l := recK l[j] k vd vt vp) eJ rfl (fun i u hu => by
  rw [Nat.add_assoc]
  exact Vw.cell_in hs.isIn (hcells _ _ (fN hctt hu))))) rfl ?_
 refine aJ (aX hs z_30 rfl (fun b4 w hb4 he4 hs => aJ (dR 0 hs eJ rfl rfl rfl rfl rfl hflat rfl (fun w hs => aH (dP (lp (aO rfl (aP eJ (hs.g 0 rfl) rfl)) rfl (aZ ok_49 rfl rfl (z_fits5 hs.isIn hD hT hP hmm.1 hmm.2) rfl (fun v15 w HF => ?_))))))))
 obtain ⟨bb, rfl, hc⟩ := HF
 replace hs := hs.frame hc
 refine lp (cS rfl) rfl (aH (bJ rfl (fun hc2 => ?_) (fun hc2 => ?_)))
 refine dP (dN rfl rfl (aH (aV ⟨_, fW rfl, ?_⟩)))
 exact ⟨_, rfl, hs.drop hb4⟩
 refine aW (aB (lp (bN rfl rfl (fV (c := j + 1) (by omega) (by have := hn; omega))) rfl (dM rfl rfl (aH ?_))))
 exact ⟨j + 1, aL rfl (aL rfl (aL rfl (bG _))), ⟨hs.drop hb4, hjl⟩, by omega⟩
 refine eT (dP (dN rfl rfl (aH (aV ⟨_, fW rfl, ?_⟩))))
 exact ⟨_, rfl, hs⟩
set_option maxHeartbeats 2000000 in
theorem z_fits1 (hV : V.In w0) {m : PMess} {va v1 v2 v3 : Value} (hQ : RAsksW V va m.asks) (hA : RRecsK V v1 m.answers) (hU : RRecsK V v2 m.authorities) (hD : RRecsK V v3 m.additionals) (hsz : sizeM m ≤ 4611686018427387904) :
  eC Tryz.prog 9 #[.agg (fJ m.head ++ [va, v1, v2, v3]).toArray] w0 (SomeB V w0) := by
 have hsm : sizeM m = 12 + sumT askS m.asks m.asks.length + sizeL m.answers + sizeL m.authorities + sizeL m.additionals := rfl
 have c0 := asks_cnt m.asks
 have c1 := recs_cnt m.answers
 have c2 := recs_cnt m.authorities
 have c3 := recs_cnt m.additionals
 have hs := St.start hV
 refine aT [_] Tryz.func9 Tryz.ntmps9 Tryz.results9 rfl rfl (dP (aJ (cR hs rfl rfl rfl (fun b1 w hb1 hbe1 hs => dN rfl rfl (aH (aF (dP (lp (aR fo_36_1 rfl) rfl (lp (aO rfl (cT (a := fJ m.head) (i := 0) k_34 (hs.g 0 rfl) rfl rfl rfl)) rfl (aZ ok_21 rfl rfl (z_fits2 hs.isIn hQ (by omega)) rfl (fun v5 w HF => ?_)))))))))))
 obtain ⟨bb, rfl, hc⟩ := HF
 replace hs := hs.frame hc
 refine lp (cS rfl) rfl (aH (bJ rfl (fun hc0 => ?_) (fun hc0 => ?_)))
 refine dP (dN rfl rfl (aH (aV ⟨_, fW rfl, ?_⟩)))
 exact ⟨_, rfl, hs.drop hb1⟩
 refine aW (aF (dP (lp (aR fo_36_2 rfl) rfl (lp (aO rfl (cT (a := fJ m.head) (i := 1) k_31 (hs.g 0 rfl) rfl rfl rfl)) rfl (aZ ok_22 rfl rfl (z_fits4 hs.isIn hA (by omega) (recs_in (by omega))) rfl (fun v9 w HF => ?_))))))
 obtain ⟨bb, rfl, hc⟩ := HF
 replace hs := hs.frame hc
 refine lp (cS rfl) rfl (aH (bJ rfl (fun hc1 => ?_) (fun hc1 => ?_)))
 refine dP (dN rfl rfl (aH (aV ⟨_, fW rfl, ?_⟩)))
 exact ⟨_, rfl, hs.drop hb1⟩
 refine aW (aF (dP (lp (aR fo_36_3 rfl) rfl (lp (aO rfl (cT (a := fJ m.head) (i := 2) k_31 (hs.g 0 rfl) rfl rfl rfl)) rfl (aZ ok_22 rfl rfl (z_fits4 hs.isIn hU (by omega) (recs_in (by omega))) rfl (fun v13 w HF => ?_))))))
 obtain ⟨bb, rfl, hc⟩ := HF
 replace hs := hs.frame hc
 refine lp (cS rfl) rfl (aH (bJ rfl (fun hc2 => ?_) (fun hc2 => ?_)))
 refine dP (dN rfl rfl (aH (aV ⟨_, fW rfl, ?_⟩)))
 exact ⟨_, rfl, hs.drop hb1⟩
 refine aW (aF (dP (lp (aR fo_36_4 rfl) rfl (lp (aO rfl (cT (a := fJ m.head) (i := 3) k_31 (hs.g 0 rfl) rfl rfl rfl)) rfl (aZ ok_22 rfl rfl (z_fits4 hs.isIn hD (by omega) (recs_in (by omega))) rfl (fun v17 w HF => ?_))))))
 obtain ⟨bb, rfl, hc⟩ := HF
 replace hs := hs.frame hc
 refine lp (cS rfl) rfl (aH (bJ rfl (fun hc3 => ?_) (fun hc3 => ?_)))
 refine dP (dN rfl rfl (aH (aV ⟨_, fW rfl, ?_⟩)))
 exact ⟨_, rfl, hs.drop hb1⟩
 refine aW (dP (dN rfl rfl (aH (aV ⟨_, fW rfl, ?_⟩))))
 exact ⟨_, rfl, hs.drop hb1⟩
end
end Go.Proofs.YtgpfjlfkaoffeaaGreatDoor
namespace Go.Proofs.YtgpfjlfkaoffeaaGreatDoor
open Go
theorem PR.zero1 (l : List UInt8) (mv : Value) : PR l mv {} (parC (.slice none 0 0) 0 0 0 0 0 0 {}) := ⟨_, _, _, _, _, _, _, rfl, ⟨.inr rfl, by decide, by decide, by decide⟩, fun h => absurd h (by decide)⟩
section
variable {A : Nat → Addr} {V : Vw} {w0 : World} {l : List UInt8} {mv : Value}
set_option maxHeartbeats 4000000 in
theorem c_parse1 (hG : Gl A V) (hV : V.In w0) (hb : RB V mv l) (h2l : l.length ≤ 4294967296) (h12 : 12 ≤ l.length) {stv : Value} (hst : SlV V 1 stv 1 [.int .i64 1]) :
  eC Tryz.prog 16 #[mv, stv] w0 fun v w' => ∃ (V' : Vw) (xs : List Value), St ⟨w0, V, V'⟩ w' [] ∧ SlV V' 13 v 1 xs := by
 obtain ⟨a, cap, rfl, _, ha⟩ := hst.form
 obtain ⟨b, p, rfl, hc⟩ := ha (by decide)
 have hs := St.start hV
 refine aT [_, _] Tryz.func16 Tryz.ntmps16 Tryz.results16 rfl rfl (dP (dN rfl rfl (aH (dP (lp (bM (vs := []) (ps := []) rfl bz_100) rfl (aJ (aX hs z_100 rfl (fun b5 w hb5 he5 hs => aJ (dR 0 hs k_100 rfl rfl rfl (by simp) (by simp) (aG (by decide +kernel)) rfl (fun w hs => aH (dP (lp (aO rfl (aP k_100 (hs.g 0 rfl) (by simp))) rfl (aJ (aX hs z_100 rfl (fun b6 w hb6 he6 hs => aJ (dR 0 hs k_100 rfl rfl rfl (by simp) (by simp) (aG (by decide +kernel)) rfl (fun w hs => ?_)))))))))))))))))
 obtain ⟨ks, cs, hp, hs⟩ : ∃ ks cs : List Value, PR l mv {} cs ∧ St ⟨w0, V, V⟩ w [(b6, .cells ks.toArray 100 (0, 0)), (b5, .cells cs.toArray 100 (0, 0))] := ⟨_, _, PR.zero1 l mv, hs⟩
 refine aH (dP (aJ (fP es_60 hs rfl (fun b15 w hb15 he15 hs => ?_))))
 have hsl : Sl 81 13 ⟨w0, V, V⟩ w [(b6, .cells ks.toArray 100 (0, 0)), (b5, .cells cs.toArray 100 (0, 0))] (.slice (some ⟨b15, 0, none⟩) 0 0) 0 [] := ⟨rfl, .inr ⟨b15, 0, [], rfl, rfl, by omega, by decide, hb15, hs⟩⟩
 refine dN rfl rfl (aH (aF (dP (dM rfl rfl (lp (bC Tryz.underlying62 rfl) rfl (dM rfl rfl (aH (bQ (dC (fun g : Nat × List Value × List Value × Value => eH (eH (eH (eH (eH (eH (eH emp 18 (.int .i64 g.1)) 17 (.int .i64 (1 : Nat))) 16 (.slice (some ⟨b, p, none⟩) 1 cap)) 7 g.2.2.2) 6 (.pointer (some ⟨b6, 0, none⟩))) 5 (.pointer (some ⟨b5, 0, none⟩))) 0 mv) (fun g w' => Sl 81 13 ⟨w0, V, V⟩ w' [(b6, .cells ks.toArray 100 (0, 0)), (b5, .cells g.2.1.toArray 100 (0, 0))] g.2.2.2 g.1 g.2.2.1 ∧ g.1 ≤ 1 ∧ (g.1 = 0 → PR l mv {} g.2.1)) (fun g => 1 - g.1) (0, cs, [], .slice (some ⟨b15, 0, none⟩) 0 0) (aL rfl (aL rfl (aL rfl (aL rfl (aL rfl (aL rfl (aL rfl (bG _)))))))) ⟨hsl, Nat.zero_le _, fun _ => hp⟩ ?_)))))))))
 clear hsl hs hp
 rintro ⟨j, cs, ys, sv⟩ w ⟨hsl, hj, hp⟩
 simp only at hsl hj hp ⊢
 refine dP (lp (cY rfl rfl) rfl (aH (aF (bH rfl (fun hc0 => ?_) (fun hc0 => ?_)))))
 have hj0 : j = 0 := by omega
 subst hj0
 replace hp := hp rfl
 obtain ⟨X, hX, hs⟩ := hsl.open
 refine aW (aF (bQ (dP (lp (eZ 0 p es_62 rfl rfl rfl (by decide) rfl) rfl (lp (aO rfl (bR (v := .int .i64 1) cH (Vw.cell_in hs.isIn (hc 0 _ rfl)))) rfl (dN rfl rfl (aH (dP (lp (bM (vs := []) (ps := []) rfl bz_81) rfl (aJ (aX hs z_81 rfl (fun b10 w hb10 he10 hs => aJ (dR 0 hs k_81 rfl rfl rfl (by simp) (by simp) (aG (by decide +kernel)) rfl (fun w hs => aH (aF ?_)))))))))))))))
 refine bQ (dP (dM rfl rfl (lp (bI rfl rfl) rfl (dN rfl rfl (aH (cO rfl ((decide_eq_true rfl)) (dP (dM rfl rfl (aZ ok_35 rfl rfl (c_start hG hs.isIn hb (hs.g 2 rfl) (hs.off (k := 2) rfl) hp (wf_init l) h2l) rfl (fun v29 w HF => ?_))))))))))
 obtain ⟨cs', hcs, e, k, m', rfl, hc2, hp, he, hhl, hhf, hr⟩ := HF
 replace hs := hs.frame1 (k := 2) rfl rfl hc2
 obtain ⟨_, rfl, rfl, rfl⟩ := hr.resolve_right (fun h => by omega)
 refine dM rfl rfl (dO rfl rfl rfl (dO rfl rfl rfl (aJ (aX hs z_50 rfl (fun b11 w hb11 he11 hs => aJ (dR 0 hs k_50 rfl rfl rfl hhl rfl hhf rfl (fun w hs => dN rfl rfl (aH (dP (dM rfl rfl (aZ ok_36 rfl rfl (c_faultOf hG hs.isIn he) rfl (fun v33 w HF => ?_))))))))))))
 obtain ⟨rfl, hc2⟩ := HF
 replace hs := hs.frame hc2
 refine lp (bL rfl (by rfl) (bu_81_0 _)) rfl (aJ (dR 1 hs k_81 rfl rfl rfl (by simp) (by simp) (aG (by decide +kernel)) rfl (fun w hs => aH (dP (dM rfl rfl (lp (po_err_eq_nil he rfl) rfl (aH (cO rfl ((decide_eq_true rfl)) (aB (lp (aO rfl (aP k_50 (hs.g 0 rfl) rfl)) rfl (aZ ok_18 rfl rfl (c_headOf hs.isIn (w16 l 0) (w16 l 2)) rfl (fun v38 w HF => ?_))))))))))))
 obtain ⟨rfl, hc3⟩ := HF
 replace hs := hs.frame hc3
 refine lp (aR fo_81_1 rfl) rfl (aJ (o_storeA (k := 1) (p := 1) hs bZ rfl rfl rfl rfl (by decide) (flat_headC _ _) rfl (fun w hs => aH (aB (dM rfl rfl (lp (aO rfl (aP k_81 (hs.g 1 rfl) rfl)) rfl (l_app1 (cl := _) el_60 (SlX.close (L := [_, _, _]) hX (hs.drop hb11)) (fun _ => rfl) rfl rfl rfl (bX rfl (fD (flat_headC (w16 l 0) (w16 l 2)) (aG rfl))) (by omega) (by omega) (by omega) rfl rfl (fun b16 sv' w hs => ?_))))))))
 replace hs := hs.drop hb10
 skip
 refine dN rfl rfl (aH (aB (lp (bN rfl rfl (fV (c := 1) (by omega) (by omega))) rfl (dM rfl rfl (aH ?_)))))
 exact ⟨(1, cs', _, sv'), aL rfl (aL rfl (aL rfl (aL rfl (aL rfl (aL rfl (aL rfl (bG _))))))), ⟨hs, Nat.le_refl _, fun h => by cases h⟩, by simp only; omega⟩
 have hj1 : j = 1 := by omega
 subst hj1
 refine eT (aF ?_)
 obtain ⟨V', hle', hsv, hs⟩ := hsl.give
 refine aB (dM rfl rfl (dN rfl rfl (aH (aV ⟨_, fW rfl, ?_⟩))))
 exact ⟨V', _, (hs.drop hb6).drop hb5, hsv⟩
end
end Go.Proofs.YtgpfjlfkaoffeaaGreatDoor
namespace Go.Proofs.YtgpfjlfkaoffeaaGreatDoor
open Go
def LawQ (V : Vw) (w0 : World) (v : Value) (w' : World) : Prop := v = .bool true ∧ ∃ V', St ⟨w0, V, V'⟩ w' []
def pk12 : List UInt8 := [0, 7, 0, 0, 0, 0, 0, 0, 0, 0, 0, 0]
theorem pack12 : packM { head := { id := 7 } } = some pk12 := by kernel_rfl
theorem unpack12 : unpackM pk12 = some { id := 7 } := by
 rw [unpackM_eq]; kernel_rfl
theorem mok7 : MOk { head := { id := 7 } } :=
 ⟨Nat.zero_le _, Nat.zero_le _, Nat.zero_le _, Nat.zero_le _, (fun _ h => by cases h), (fun _ h => by cases h), (fun _ h => by cases h), (fun _ h => by cases h), (by decide), (by decide), (by decide)⟩
section
variable {A : Nat → Addr} {V : Vw} {w0 : World}
set_option maxHeartbeats 2000000 in
theorem c_packs (hG : Gl A V) (hV : V.In w0) : eC Tryz.prog 7 #[] w0 fun v w' => v = .bool true ∧ ∃ V', St ⟨w0, V, V'⟩ w' [] := by
 have hs := St.start hV
 have hg : true = true := rfl
 refine aT [] Tryz.func7 Tryz.ntmps7 Tryz.results7 rfl rfl (dP (dN rfl rfl (aH (dP (lp (bL rfl (by rfl) (bu_33_0 _)) rfl (lp (po_buildL (cls := [fJ { id := 7 }]) rfl rfl (bg_36_0 _ _ _ _ _ _ _ _ _ _)) rfl (aZ ok_6 rfl rfl (p_Pack (m := { head := { id := 7 } }) (hG.mono hs.view) hs.isIn (RAsks.nil _) (RRecs.nil _) (RRecs.nil _) (RRecs.nil _) mok7) rfl (fun v8 w HF => ?_))))))))
 obtain ⟨V1, x, ok0, o, rfl, hc, hx, hr⟩ := HF
 replace hs := hs.frame hc
 obtain ⟨rfl, rfl⟩ : ok0 = true ∧ o = pk12 := by
  rcases hr with ⟨h1, h2⟩ | ⟨_, _, h2⟩
  rw [pack12] at h2; cases h2; exact ⟨h1, rfl⟩
  rw [pack12] at h2; cases h2
 refine dM rfl rfl (dO rfl rfl rfl (dO rfl rfl rfl (dN rfl rfl (dN rfl rfl (aH (dP (dM rfl rfl (aZ ok_8 rfl rfl (c_unpack (hG.mono hs.view) hs.isIn hx (by decide)) rfl (fun v13 w HF => ?_)))))))))
 obtain ⟨V2, mcs, ok, y, rfl, hc, hRM, hun⟩ := HF
 replace hs := hs.frame hc
 have hle2 := hc.view
 obtain ⟨rfl, rfl⟩ : ok = true ∧ y = { id := 7 } := by
  rcases hun with ⟨h1, h2⟩ | ⟨_, h2, _⟩
  rw [unpack12] at h2; cases h2; exact ⟨h1, rfl⟩
  rw [unpack12] at h2; cases h2
 refine dM rfl rfl (dO rfl rfl rfl (dO rfl rfl rfl (aJ (aX hs z_36 rfl (fun b3 w hb3 he3 hs => aJ (dR 0 hs k_36 rfl rfl rfl hRM.flat.2 rfl hRM.flat.1 rfl (fun w hs => dN rfl rfl (aH (aF ?_)))))))))
 skip
 obtain ⟨q0, q1, q2, q3, rfl, _⟩ := hRM
 refine aB (dM rfl rfl (dM rfl rfl (lg rfl rfl hg (aC rfl) rfl (lp (bO rfl rfl rfl) rfl (dM rfl rfl (lg rfl rfl hg (aR fo_36_0 rfl) rfl (lg rfl rfl hg (aR cV rfl) rfl (lg rfl rfl hg (aO rfl (bR (v := .int .u16 7) eS (by rw [cell_list (hs.g 0 rfl)]; rfl))) rfl (lg rfl rfl hg (po_eqi rfl rfl) rfl (lp (bO rfl rfl rfl) rfl (dM rfl rfl (lg rfl rfl hg (aC rfl) rfl (cX rfl rfl hg (o_bslice (vls := [[.int .i64 1]]) el_62 hs rfl rfl rfl rfl (by simp) (by decide) (by decide) rfl (fun b28 w hb28 he28 hs => ?_)))))))))))))))
 obtain ⟨V3, hle3, hv28, hs⟩ := St.give hs hb28
 have hst : SlV V3 1 (.slice (some ⟨b28, 0, none⟩) 1 1) 1 [.int .i64 1] := SlV.cells (sp := []) hv28 rfl (by decide)
 refine cX rfl rfl hg (cF (cD rfl rfl ok_16 (c_parse1 (hG.mono hs.view) hs.isIn (hx.mono (Vw.le_trans hle2 hle3)) (by decide) (by decide) hst)) rfl (fun v29 w HF => ?_))
 obtain ⟨V4, xs, hc, hS⟩ := HF
 obtain ⟨a1, c1, rfl, _⟩ := hS.form
 replace hs := hs.frame hc
 refine lg rfl rfl hg (bC Tryz.underlying60 rfl) rfl (lg rfl rfl hg (po_eqi rfl rfl) rfl (lp (bO rfl rfl rfl) rfl (dN rfl rfl (aH (aV ⟨_, fW rfl, ?_⟩)))))
 exact ⟨rfl, _, hs.drop hb3⟩
end
end Go.Proofs.YtgpfjlfkaoffeaaGreatDoor
namespace Go.Proofs.YtgpfjlfkaoffeaaGreatDoor
open Go
structure RecRd (r : fY) : Prop where
  name : r.name.length ≤ 254
  host : r.host.length ≤ 254
  box : r.box.length ≤ 254
  small : Small r
  text : ∀ s ∈ r.texts, s.length ≤ 255
  pair : ∀ p ∈ r.pairs, p.key < 65536 ∧ p.data.length < 65536
  k1 : 1 ≤ r.kind
  k13 : r.kind ≤ 13
  type : r.type < 65536
  cls : r.cls < 65536
  length : r.length < 65536
def AskRd (a : PAsk) : Prop := a.name.length ≤ 254 ∧ a.type < 65536 ∧ a.cls < 65536
def toMess (x : PMsg) : PMess :=
  ⟨⟨x.id, x.bits.testBit 15, x.bits / 2048 % 16, x.bits.testBit 10, x.bits.testBit 9, x.bits.testBit 8, x.bits.testBit 7, x.bits.testBit 5, x.bits.testBit 4, x.bits % 16⟩, x.asks, x.answers, x.authorities, x.additionals⟩
structure MsgRd (x : PMsg) : Prop where
  ask : ∀ a ∈ x.asks, AskRd a
  ans : ∀ r ∈ x.answers, RecRd r
  aut : ∀ r ∈ x.authorities, RecRd r
  add : ∀ r ∈ x.additionals, RecRd r
  id : x.id < 65536
  nq : x.asks.length ≤ 70000
  na : x.answers.length ≤ 70000
  nu : x.authorities.length ≤ 70000
  nd : x.additionals.length ≤ 70000
theorem textsP_max {l : List (List UInt8)} (h : ∀ s ∈ l, s.length ≤ 255) : (fE l).length ≤ l.length * 256 := by
  induction l with
  | nil => exact Nat.le_refl _
  | cons a l ih =>
    have h1 := ih fun s hs => h s (List.mem_cons_of_mem _ hs)
    have h2 := h a (List.mem_cons_self ..)
    have e : fE (a :: l) = (UInt8.ofNat a.length :: a) ++ fE l := rfl
    rw [e]
    simp only [List.length_append, List.length_cons]
    omega
theorem pairsP_max {l : List fU} (h : ∀ p ∈ l, p.key < 65536 ∧ p.data.length < 65536) : (eX l).length ≤ l.length * 65540 := by
  induction l with
  | nil => exact Nat.le_refl _
  | cons a l ih =>
    have h1 := ih fun s hs => h s (List.mem_cons_of_mem _ hs)
    have h2 := h a (List.mem_cons_self ..)
    have e : eX (a :: l) = (be2 a.key ++ (be2 a.data.length ++ a.data)) ++ eX l := rfl
    rw [e]
    simp only [List.length_append, List.length_cons, eP]
    omega
theorem RecRd.sizes {r : fY} (h : RecRd r) : r.data.length ≤ 65536 ∧ (fE r.texts).length ≤ 16777216 ∧ (eX r.pairs).length ≤ 4295229440 := by
  have h1 := textsP_max h.text
  have h2 := pairsP_max h.pair
  obtain ⟨a, b, c, _⟩ := h.small
  exact ⟨a, by omega, by omega⟩
theorem RecRd.fitS {r : fY} (h : RecRd r) : FitS r := by
  obtain ⟨a, b, c⟩ := h.sizes
  exact ⟨by omega, by omega, by omega⟩
theorem type_lt {r : fY} (h : r.type < 65536) : eG r < 65536 := by
  unfold eG
  split <;> omega
theorem RecRd.ok {r : fY} (h : RecRd r) : RecOk r := by
  obtain ⟨a, b, c⟩ := h.sizes
  obtain ⟨s1, s2, s3, s4⟩ := h.small
  have := h.name
  have := h.host
  have := h.box
  exact ⟨⟨by omega, by omega, by omega, by omega, by omega, by omega, fun p hp => by have := s4 p hp; omega⟩, ⟨by omega, by omega, h.text, by omega, h.pair⟩, h.k1, h.k13, type_lt h.type, h.cls, h.length⟩
def Pkb (m : PMess) : Prop := (m.asks.length ≤ 65535 ∧ m.answers.length ≤ 65535 ∧ m.authorities.length ≤ 65535 ∧ m.additionals.length ≤ 65535) ∧ m.head.op ≤ 15 ∧ m.head.code ≤ 15 ∧ sizeM m ≤ 60000
theorem MsgRd.mfit {x : PMsg} (h : MsgRd x) (hp : Pkb (toMess x)) : MFit (toMess x) := by
  obtain ⟨⟨a, b, c, d⟩, e, f, _⟩ := hp
  exact ⟨a, b, c, d, by omega, by omega, fun r hr => (h.ans r hr).fitS, fun r hr => (h.aut r hr).fitS, fun r hr => (h.add r hr).fitS⟩
theorem asksP_growL : ∀ {l : List PAsk} {w w2 : Ink}, asksP l w = some w2 → w2.out.length ≤ w.out.length + l.length * 600
  | [], w, w2, h => by cases h; simp
  | r :: l, w, w2, h => by
    obtain ⟨w1, h1, h2⟩ := Option.bind_eq_some_iff.1 h
    have := askP_grow h1
    have := asksP_growL h2
    simp only [List.length_cons]; omega
theorem sizeL_40 (l : List fY) : l.length * 40 ≤ sizeL l := by
  unfold sizeL sumT
  rw [List.take_length]
  induction l with
  | nil => exact Nat.le_refl _
  | cons a l ih =>
    simp only [List.map_cons, List.sum_cons, List.length_cons]
    have : 40 ≤ sizeR a := by unfold sizeR; omega
    omega
theorem packM_len {m : PMess} {o : List UInt8} (hp : Pkb m) (h : packM m = some o) : o.length ≤ 4294967296 := by
  obtain ⟨⟨a, b, c, d⟩, _, _, hs⟩ := hp
  unfold packM at h
  obtain ⟨w4, k4, rfl⟩ := Option.map_eq_some_iff.1 h
  obtain ⟨w3, k3, g4⟩ := Option.bind_eq_some_iff.1 k4
  obtain ⟨w2, k2, g3⟩ := Option.bind_eq_some_iff.1 k3
  obtain ⟨w1, g1, g2⟩ := Option.bind_eq_some_iff.1 k2
  have e1 := asksP_growL g1
  have e2 := recsP_growL g2
  have e3 := recsP_growL g3
  have e4 := recsP_growL g4
  have f2 := sizeL_40 m.answers
  have f3 := sizeL_40 m.authorities
  have f4 := sizeL_40 m.additionals
  have hh : (headP m).length = 12 := by simp [headP, be2]
  unfold sizeM at hs
  simp only [hh] at e1
  omega
end Go.Proofs.YtgpfjlfkaoffeaaGreatDoor

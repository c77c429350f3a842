/- The reference: bodies that are addresses, names, bytes. -/
import Derived.Test.YtgpfjlfkaoffeaaGreatDoorU27
set_option linter.all false
namespace Go.Proofs.YtgpfjlfkaoffeaaGreatDoor
open Go
def SBody (V : Vw) (l : List UInt8) (n kind len : Nat) (ok : Bool) (rc : List Value) : Prop := rc.length = 16 ∧ Flat rc ∧ ((ok = true ∧ ∃ r, body l n kind len = some r ∧ RRec V r rc) ∨ (ok = false ∧ body l n kind len = none))
theorem RBy.okB {V : Vw} {l : List UInt8} {n c : Nat} {bv : Value} (h : RBy V l n c bv true) : n + c ≤ l.length ∧ RB V bv (seg l n c) := by
 rcases h with ⟨_, h1, h2⟩ | ⟨h, _⟩
 exact ⟨h1, h2⟩
 cases h
theorem RBy.badB {V : Vw} {l : List UInt8} {n c : Nat} {bv : Value} (h : RBy V l n c bv false) : l.length < n + c ∧ bv = .slice none 0 0 := by
 rcases h with ⟨h, _⟩ | ⟨_, h1, h2⟩
 cases h
 exact ⟨h1, h2⟩
theorem words1 {l : List UInt8} {n q o : Nat} {cs cs' : List Value} {ok : Bool} (h : wordsS l n [q] cs = (ok, o, cs')) :
  (ok = true → n + 2 ≤ l.length ∧ o = n + 2 ∧ cs' = cs.set q (.int .u32 (w16 l n))) ∧ (ok = false → l.length < n + 2) := by
 unfold wordsS at h
 split at h
 unfold wordsS at h; cases h; exact ⟨fun _ => ⟨by assumption, rfl, rfl⟩, fun h => by cases h⟩
 cases h; exact ⟨fun h => (by cases h), fun _ => by omega⟩
theorem words3 {l : List UInt8} {n q r s o : Nat} {cs cs' : List Value} {ok : Bool} (h : wordsS l n [q, r, s] cs = (ok, o, cs')) :
  (ok = true → n + 6 ≤ l.length ∧ o = n + 6 ∧ cs' = ((cs.set q (.int .u32 (w16 l n))).set r (.int .u32 (w16 l (n + 2)))).set s (.int .u32 (w16 l (n + 4)))) ∧ (ok = false → l.length < n + 6) := by
 unfold wordsS at h
 split at h
 unfold wordsS at h
 split at h
 unfold wordsS at h
 split at h
 unfold wordsS at h; cases h; exact ⟨fun _ => ⟨by omega, rfl, rfl⟩, fun h => by cases h⟩
 cases h; exact ⟨fun h => (by cases h), fun _ => by omega⟩
 cases h; exact ⟨fun h => (by cases h), fun _ => by omega⟩
 cases h; exact ⟨fun h => (by cases h), fun _ => by omega⟩
theorem rd16_yes {l : List UInt8} {n : Nat} (h : n + 2 ≤ l.length) : rd16 l n = some (w16 l n) := by unfold rd16; rw [if_pos h]
theorem rd16_no {l : List UInt8} {n : Nat} (h : l.length < n + 2) : rd16 l n = none := by unfold rd16; rw [if_neg (by omega)]
theorem rdBytes_yes {l : List UInt8} {n c : Nat} (h : n + c ≤ l.length) : rdBytes l n c = some (seg l n c) := by unfold rdBytes; rw [if_pos h]
theorem rdBytes_no {l : List UInt8} {n c : Nat} (h : l.length < n + c) : rdBytes l n c = none := by unfold rdBytes; rw [if_neg (by omega)]
section
variable {V : Vw} {w0 : World} {l : List UInt8} {mv : Value} {off : Int}
set_option maxHeartbeats 1000000 in
theorem c_Body1 (hV : V.In w0) (hb : RB V mv l) (n : Nat) (hn : off = n) (len : Nat) {lv : Int} (hlv : lv = len) (h1 : n ≤ 1152921504606746970) (hlen : len ≤ 65536) (h2 : l.length ≤ 4294967296) :
  eC Tryz.prog 126 #[mv, .int .i64 off, .int .i64 1, .int .i64 lv] w0 fun v w' => ∃ (V' : Vw) (rc : List Value) (ok : Bool), v = .tuple #[.agg rc.toArray, .bool ok] ∧ St ⟨w0, V, V'⟩ w' [] ∧ SBody V' l n 1 len ok rc := by
 subst hn hlv
 obtain ⟨a, cap, rfl, hcap, ha⟩ := hb.form
 have hs := St.start hV
 refine aT [_, _, _, _] Tryz.func126 Tryz.ntmps126 Tryz.results126 rfl rfl (dP (aJ (aX hs z_30 rfl (fun b8 w hb8 he8 hs => dN rfl rfl (aH (dP (dM rfl rfl (lp (bL rfl (by rfl) (bu_30_5 _)) rfl (aJ (aX hs z_30 rfl (fun b10 w hb10 he10 hs => aJ (dR 0 hs eJ rfl rfl rfl (by simp) (by simp) (aG (by decide +kernel)) rfl (fun w hs => ?_)))))))))))))
 obtain ⟨zz, hzl, hs⟩ : ∃ zz : List Value, zz.length = 16 ∧ St ⟨w0, V, V⟩ w [(b10, .cells (eY { kind := 1 } (.slice none 0 0) (.slice none 0 0) (.slice none 0 0)).toArray 30 (0, 0)), (b8, .cells zz.toArray 30 (0, 0))] := ⟨_, rfl, hs⟩
 refine aH (dP (dN rfl rfl (aH (dP (dM rfl rfl (dM rfl rfl (lp (bN rfl rfl (i64w (by omega))) rfl (dN rfl rfl (aH (aF (dP (dM rfl rfl (aH ?_)))))))))))))
 refine bQ (dP (lp (bI rfl rfl) rfl (dN rfl rfl (aH (cO rfl rfl (aB (dM rfl rfl (dM rfl rfl (aZ ok_181 rfl rfl (c_bytesAt hs.isIn hb n 4 rfl rfl (by omega) (by decide) (by omega)) rfl (fun v39 w HF => ?_))))))))))
 obtain ⟨V1, bv, ok, rfl, hc, hr⟩ := HF
 replace hs := hs.frame hc
 refine dM rfl rfl (dO rfl rfl rfl (dO rfl rfl rfl (lp (aR fo_30_6 rfl) rfl (aJ (dQ 0 hs k_23 rfl rfl rfl hr.oneCell rfl rfl rfl (fun w hs => dN rfl rfl (aH (aF (dP (dM rfl rfl (lp (cS rfl) rfl (aH (bJ rfl (fun hc1 => ?_) (fun hc1 => ?_))))))))))))))
 obtain rfl : ok = false := by simpa using hc1
 refine dP (lp (bM (vs := []) (ps := []) rfl bz_30) rfl (aJ (dR 1 hs eJ rfl rfl rfl rfl hzl (aG rfl) rfl (fun w hs => dN rfl rfl (aH (aV ⟨_, fX ⟨_, rfl, aP eJ (hs.g 1 rfl) rfl⟩ rfl, ?_⟩))))))
 exact ⟨V1, _, false, rfl, (hs.drop hb10).drop hb8, rfl, aG rfl, .inr ⟨rfl, by simp only [body, rdBytes_no hr.badB.1, Option.map_none]⟩⟩
 obtain rfl : ok = true := by simpa using hc1
 obtain ⟨hfit, hRB⟩ := hr.okB
 have hRR : RRec V1 { kind := 1, data := seg l n 4 } (eY { kind := 1 } bv (.slice none 0 0) (.slice none 0 0)) := ⟨_, _, _, rfl, hRB, fF.nil V1, eV.nil V1⟩
 replace hs : St ⟨w0, V, V1⟩ _ [(b10, .cells (eY { kind := 1 } bv (.slice none 0 0) (.slice none 0 0)).toArray 30 (0, 0)), (b8, .cells zz.toArray 30 (0, 0))] := hs
 refine aW (dP (lp (aO rfl (aP eJ (hs.g 0 rfl) hRR.flat.2)) rfl (aJ (dR 1 hs eJ rfl rfl rfl hRR.flat.2 hzl hRR.flat.1 rfl (fun w hs => dN rfl rfl (aH (aV ⟨_, fX ⟨_, rfl, aP eJ (hs.g 1 rfl) hRR.flat.2⟩ rfl, ?_⟩)))))))
 exact ⟨V1, _, true, rfl, (hs.drop hb10).drop hb8, hRR.flat.2, hRR.flat.1, .inl ⟨rfl, _, by simp only [body, rdBytes_yes hfit, Option.map_some], hRR⟩⟩
set_option maxHeartbeats 1000000 in
theorem c_Body8 (hV : V.In w0) (hb : RB V mv l) (n : Nat) (hn : off = n) (len : Nat) {lv : Int} (hlv : lv = len) (h1 : n ≤ 1152921504606746970) (hlen : len ≤ 65536) (h2 : l.length ≤ 4294967296) :
  eC Tryz.prog 126 #[mv, .int .i64 off, .int .i64 8, .int .i64 lv] w0 fun v w' => ∃ (V' : Vw) (rc : List Value) (ok : Bool), v = .tuple #[.agg rc.toArray, .bool ok] ∧ St ⟨w0, V, V'⟩ w' [] ∧ SBody V' l n 8 len ok rc := by
 subst hn hlv
 obtain ⟨a, cap, rfl, hcap, ha⟩ := hb.form
 have hs := St.start hV
 refine aT [_, _, _, _] Tryz.func126 Tryz.ntmps126 Tryz.results126 rfl rfl (dP (aJ (aX hs z_30 rfl (fun b8 w hb8 he8 hs => dN rfl rfl (aH (dP (dM rfl rfl (lp (bL rfl (by rfl) (bu_30_5 _)) rfl (aJ (aX hs z_30 rfl (fun b10 w hb10 he10 hs => aJ (dR 0 hs eJ rfl rfl rfl (by simp) (by simp) (aG (by decide +kernel)) rfl (fun w hs => ?_)))))))))))))
 obtain ⟨zz, hzl, hs⟩ : ∃ zz : List Value, zz.length = 16 ∧ St ⟨w0, V, V⟩ w [(b10, .cells (eY { kind := 8 } (.slice none 0 0) (.slice none 0 0) (.slice none 0 0)).toArray 30 (0, 0)), (b8, .cells zz.toArray 30 (0, 0))] := ⟨_, rfl, hs⟩
 refine aH (dP (dN rfl rfl (aH (dP (dM rfl rfl (dM rfl rfl (lp (bN rfl rfl (i64w (by omega))) rfl (dN rfl rfl (aH (aF (dP (dM rfl rfl (aH ?_)))))))))))))
 refine bQ (dP (lp (bI rfl rfl) rfl (dN rfl rfl (aH (aY rfl rfl (dP (lp (bI rfl rfl) rfl (dN rfl rfl (aH (cO rfl rfl (aB (dM rfl rfl (dM rfl rfl ?_)))))))))))))
 refine aZ ok_181 rfl rfl (c_bytesAt hs.isIn hb n 16 rfl rfl (by omega) (by decide) (by omega)) rfl (fun v48 w HF => ?_)
 obtain ⟨V1, bv, ok, rfl, hc, hr⟩ := HF
 replace hs := hs.frame hc
 refine dM rfl rfl (dO rfl rfl rfl (dO rfl rfl rfl (lp (aR fo_30_6 rfl) rfl (aJ (dQ 0 hs k_23 rfl rfl rfl hr.oneCell rfl rfl rfl (fun w hs => dN rfl rfl (aH (aF (dP (dM rfl rfl (lp (cS rfl) rfl (aH (bJ rfl (fun hc2 => ?_) (fun hc2 => ?_))))))))))))))
 obtain rfl : ok = false := by simpa using hc2
 refine dP (lp (bM (vs := []) (ps := []) rfl bz_30) rfl (aJ (dR 1 hs eJ rfl rfl rfl rfl hzl (aG rfl) rfl (fun w hs => dN rfl rfl (aH (aV ⟨_, fX ⟨_, rfl, aP eJ (hs.g 1 rfl) rfl⟩ rfl, ?_⟩))))))
 exact ⟨V1, _, false, rfl, (hs.drop hb10).drop hb8, rfl, aG rfl, .inr ⟨rfl, by simp only [body, rdBytes_no hr.badB.1, Option.map_none]⟩⟩
 obtain rfl : ok = true := by simpa using hc2
 obtain ⟨hfit, hRB⟩ := hr.okB
 have hRR : RRec V1 { kind := 8, data := seg l n 16 } (eY { kind := 8 } bv (.slice none 0 0) (.slice none 0 0)) := ⟨_, _, _, rfl, hRB, fF.nil V1, eV.nil V1⟩
 replace hs : St ⟨w0, V, V1⟩ _ [(b10, .cells (eY { kind := 8 } bv (.slice none 0 0) (.slice none 0 0)).toArray 30 (0, 0)), (b8, .cells zz.toArray 30 (0, 0))] := hs
 refine aW (dP (lp (aO rfl (aP eJ (hs.g 0 rfl) hRR.flat.2)) rfl (aJ (dR 1 hs eJ rfl rfl rfl hRR.flat.2 hzl hRR.flat.1 rfl (fun w hs => dN rfl rfl (aH (aV ⟨_, fX ⟨_, rfl, aP eJ (hs.g 1 rfl) hRR.flat.2⟩ rfl, ?_⟩)))))))
 exact ⟨V1, _, true, rfl, (hs.drop hb10).drop hb8, hRR.flat.2, hRR.flat.1, .inl ⟨rfl, _, by simp only [body, rdBytes_yes hfit, Option.map_some], hRR⟩⟩
set_option maxHeartbeats 1000000 in
theorem c_Body13 (hV : V.In w0) (hb : RB V mv l) (n : Nat) (hn : off = n) (len : Nat) {lv : Int} (hlv : lv = len) (h1 : n ≤ 1152921504606746970) (hlen : len ≤ 65536) (h2 : l.length ≤ 4294967296) :
  eC Tryz.prog 126 #[mv, .int .i64 off, .int .i64 13, .int .i64 lv] w0 fun v w' => ∃ (V' : Vw) (rc : List Value) (ok : Bool), v = .tuple #[.agg rc.toArray, .bool ok] ∧ St ⟨w0, V, V'⟩ w' [] ∧ SBody V' l n 13 len ok rc := by
 subst hn hlv
 obtain ⟨a, cap, rfl, hcap, ha⟩ := hb.form
 have hs := St.start hV
 refine aT [_, _, _, _] Tryz.func126 Tryz.ntmps126 Tryz.results126 rfl rfl (dP (aJ (aX hs z_30 rfl (fun b8 w hb8 he8 hs => dN rfl rfl (aH (dP (dM rfl rfl (lp (bL rfl (by rfl) (bu_30_5 _)) rfl (aJ (aX hs z_30 rfl (fun b10 w hb10 he10 hs => aJ (dR 0 hs eJ rfl rfl rfl (by simp) (by simp) (aG (by decide +kernel)) rfl (fun w hs => ?_)))))))))))))
 obtain ⟨zz, hzl, hs⟩ : ∃ zz : List Value, zz.length = 16 ∧ St ⟨w0, V, V⟩ w [(b10, .cells (eY { kind := 13 } (.slice none 0 0) (.slice none 0 0) (.slice none 0 0)).toArray 30 (0, 0)), (b8, .cells zz.toArray 30 (0, 0))] := ⟨_, rfl, hs⟩
 refine aH (dP (dN rfl rfl (aH (dP (dM rfl rfl (dM rfl rfl (lp (bN rfl rfl (i64w (by omega))) rfl (dN rfl rfl (aH (aF (dP (dM rfl rfl (aH ?_)))))))))))))
 refine bQ (dP (lp (bI rfl rfl) rfl (dN rfl rfl (aH (aY rfl rfl (dP (lp (bI rfl rfl) rfl (dN rfl rfl (aH (aY rfl rfl (aF (dP (lp (bI rfl rfl) rfl ?_)))))))))))))
 refine dN rfl rfl (aH (aY rfl rfl (dP (lp (bI rfl rfl) rfl (dN rfl rfl (aH (aY rfl rfl (aB (lp (bI rfl rfl) rfl (dN rfl rfl (aH (aY rfl rfl (dP ?_)))))))))))))
 refine lp (bI rfl rfl) rfl (dN rfl rfl (aH (aY rfl rfl (dP (lp (bI rfl rfl) rfl (dN rfl rfl (aH (aY rfl rfl (dP (lp (bI rfl rfl) rfl (dN rfl rfl (aH (aY rfl rfl ?_)))))))))))))
 refine dP (lp (bI rfl rfl) rfl (dN rfl rfl (aH (aY rfl rfl (dP (lp (bI rfl rfl) rfl (dN rfl rfl (aH (aY rfl rfl (aF (dP (lp (bI rfl rfl) rfl (dN rfl rfl ?_)))))))))))))
 refine aH (aY rfl rfl (aB (lp (bI rfl rfl) rfl (dN rfl rfl (aH (aY rfl rfl (aB (dM rfl rfl (dM rfl rfl (dM rfl rfl (aZ ok_181 rfl rfl (c_bytesAt hs.isIn hb n len rfl rfl (by omega) (by omega) (by omega)) rfl (fun v30 w HF => ?_))))))))))))
 obtain ⟨V1, bv, ok, rfl, hc, hr⟩ := HF
 replace hs := hs.frame hc
 refine dM rfl rfl (dO rfl rfl rfl (dO rfl rfl rfl (lp (aR fo_30_6 rfl) rfl (aJ (dQ 0 hs k_23 rfl rfl rfl hr.oneCell rfl rfl rfl (fun w hs => dN rfl rfl (aH (aF (dP (dM rfl rfl (lp (cS rfl) rfl (aH (bJ rfl (fun hc12 => ?_) (fun hc12 => ?_))))))))))))))
 obtain rfl : ok = false := by simpa using hc12
 refine dP (lp (bM (vs := []) (ps := []) rfl bz_30) rfl (aJ (dR 1 hs eJ rfl rfl rfl rfl hzl (aG rfl) rfl (fun w hs => dN rfl rfl (aH (aV ⟨_, fX ⟨_, rfl, aP eJ (hs.g 1 rfl) rfl⟩ rfl, ?_⟩))))))
 exact ⟨V1, _, false, rfl, (hs.drop hb10).drop hb8, rfl, aG rfl, .inr ⟨rfl, by simp only [body, rdBytes_no hr.badB.1, Option.map_none]⟩⟩
 obtain rfl : ok = true := by simpa using hc12
 obtain ⟨hfit, hRB⟩ := hr.okB
 have hRR : RRec V1 { kind := 13, data := seg l n len } (eY { kind := 13 } bv (.slice none 0 0) (.slice none 0 0)) := ⟨_, _, _, rfl, hRB, fF.nil V1, eV.nil V1⟩
 replace hs : St ⟨w0, V, V1⟩ _ [(b10, .cells (eY { kind := 13 } bv (.slice none 0 0) (.slice none 0 0)).toArray 30 (0, 0)), (b8, .cells zz.toArray 30 (0, 0))] := hs
 refine aW (dP (lp (aO rfl (aP eJ (hs.g 0 rfl) hRR.flat.2)) rfl (aJ (dR 1 hs eJ rfl rfl rfl hRR.flat.2 hzl hRR.flat.1 rfl (fun w hs => dN rfl rfl (aH (aV ⟨_, fX ⟨_, rfl, aP eJ (hs.g 1 rfl) hRR.flat.2⟩ rfl, ?_⟩)))))))
 exact ⟨V1, _, true, rfl, (hs.drop hb10).drop hb8, hRR.flat.2, hRR.flat.1, .inl ⟨rfl, _, by simp only [body, rdBytes_yes hfit, Option.map_some], hRR⟩⟩
set_option maxHeartbeats 1000000 in
theorem c_Body2 (hV : V.In w0) (hb : RB V mv l) (n : Nat) (hn : off = n) (len : Nat) {lv : Int} (hlv : lv = len) (h1 : n ≤ 1152921504606746970) (hlen : len ≤ 65536) (h2 : l.length ≤ 4294967296) :
  eC Tryz.prog 126 #[mv, .int .i64 off, .int .i64 2, .int .i64 lv] w0 fun v w' => ∃ (V' : Vw) (rc : List Value) (ok : Bool), v = .tuple #[.agg rc.toArray, .bool ok] ∧ St ⟨w0, V, V'⟩ w' [] ∧ SBody V' l n 2 len ok rc := by
 subst hn hlv
 obtain ⟨a, cap, rfl, hcap, ha⟩ := hb.form
 have hs := St.start hV
 refine aT [_, _, _, _] Tryz.func126 Tryz.ntmps126 Tryz.results126 rfl rfl (dP (aJ (aX hs z_30 rfl (fun b8 w hb8 he8 hs => dN rfl rfl (aH (dP (dM rfl rfl (lp (bL rfl (by rfl) (bu_30_5 _)) rfl (aJ (aX hs z_30 rfl (fun b10 w hb10 he10 hs => aJ (dR 0 hs eJ rfl rfl rfl (by simp) (by simp) (aG (by decide +kernel)) rfl (fun w hs => ?_)))))))))))))
 obtain ⟨zz, hzl, hs⟩ : ∃ zz : List Value, zz.length = 16 ∧ St ⟨w0, V, V⟩ w [(b10, .cells (eY { kind := 2 } (.slice none 0 0) (.slice none 0 0) (.slice none 0 0)).toArray 30 (0, 0)), (b8, .cells zz.toArray 30 (0, 0))] := ⟨_, rfl, hs⟩
 refine aH (dP (dN rfl rfl (aH (dP (dM rfl rfl (dM rfl rfl (lp (bN rfl rfl (i64w (by omega))) rfl (dN rfl rfl (aH (aF (dP (dM rfl rfl (aH ?_)))))))))))))
 refine bQ (dP (lp (bI rfl rfl) rfl (dN rfl rfl (aH (aY rfl rfl (dP (lp (bI rfl rfl) rfl (dN rfl rfl (aH (aY rfl rfl (aF (dP (lp (bI rfl rfl) rfl ?_)))))))))))))
 refine dN rfl rfl (aH (cO rfl rfl (aW (cO rfl rfl (aB (dM rfl rfl (dM rfl rfl (aZ ok_182 rfl rfl (c_Name hs.isIn hb n rfl (by omega) (by omega)) rfl (fun v59 w HF => ?_)))))))))
 obtain ⟨hc, out, o, ok, rfl, hr⟩ := HF
 replace hs := hs.frame hc
 refine dM rfl rfl (dO rfl rfl rfl (dO rfl rfl rfl (dO rfl rfl rfl (lp (aR fo_30_7 rfl) rfl (aJ (dQ 0 hs k_9 rfl rfl rfl rfl rfl rfl rfl (fun w hs => dN rfl rfl (aH (aF (dP (dM rfl rfl (lp (cS rfl) rfl (aH (bJ rfl (fun hc4 => ?_) (fun hc4 => ?_)))))))))))))))
 obtain rfl : ok = false := by simpa using hc4
 refine dP (lp (bM (vs := []) (ps := []) rfl bz_30) rfl (aJ (dR 1 hs eJ rfl rfl rfl rfl hzl (aG rfl) rfl (fun w hs => dN rfl rfl (aH (aV ⟨_, fX ⟨_, rfl, aP eJ (hs.g 1 rfl) rfl⟩ rfl, ?_⟩))))))
 exact ⟨V, _, false, rfl, (hs.drop hb10).drop hb8, rfl, aG rfl, .inr ⟨rfl, by simp only [body, hr.bad.1, Option.map_none]⟩⟩
 obtain rfl : ok = true := by simpa using hc4
 have hRR : RRec V { kind := 2, host := out } (eY { kind := 2, host := out } (.slice none 0 0) (.slice none 0 0) (.slice none 0 0)) := ⟨_, _, _, rfl, RB.nil V, fF.nil V, eV.nil V⟩
 replace hs : St ⟨w0, V, V⟩ _ [(b10, .cells (eY { kind := 2, host := out } (.slice none 0 0) (.slice none 0 0) (.slice none 0 0)).toArray 30 (0, 0)), (b8, .cells zz.toArray 30 (0, 0))] := hs
 refine aW (dP (lp (aO rfl (aP eJ (hs.g 0 rfl) hRR.flat.2)) rfl (aJ (dR 1 hs eJ rfl rfl rfl hRR.flat.2 hzl hRR.flat.1 rfl (fun w hs => dN rfl rfl (aH (aV ⟨_, fX ⟨_, rfl, aP eJ (hs.g 1 rfl) hRR.flat.2⟩ rfl, ?_⟩)))))))
 exact ⟨V, _, true, rfl, (hs.drop hb10).drop hb8, hRR.flat.2, hRR.flat.1, .inl ⟨rfl, _, by simp only [body, hr.ok, Option.map_some], hRR⟩⟩
set_option maxHeartbeats 1000000 in
theorem c_Body3 (hV : V.In w0) (hb : RB V mv l) (n : Nat) (hn : off = n) (len : Nat) {lv : Int} (hlv : lv = len) (h1 : n ≤ 1152921504606746970) (hlen : len ≤ 65536) (h2 : l.length ≤ 4294967296) :
  eC Tryz.prog 126 #[mv, .int .i64 off, .int .i64 3, .int .i64 lv] w0 fun v w' => ∃ (V' : Vw) (rc : List Value) (ok : Bool), v = .tuple #[.agg rc.toArray, .bool ok] ∧ St ⟨w0, V, V'⟩ w' [] ∧ SBody V' l n 3 len ok rc := by
 subst hn hlv
 obtain ⟨a, cap, rfl, hcap, ha⟩ := hb.form
 have hs := St.start hV
 refine aT [_, _, _, _] Tryz.func126 Tryz.ntmps126 Tryz.results126 rfl rfl (dP (aJ (aX hs z_30 rfl (fun b8 w hb8 he8 hs => dN rfl rfl (aH (dP (dM rfl rfl (lp (bL rfl (by rfl) (bu_30_5 _)) rfl (aJ (aX hs z_30 rfl (fun b10 w hb10 he10 hs => aJ (dR 0 hs eJ rfl rfl rfl (by simp) (by simp) (aG (by decide +kernel)) rfl (fun w hs => ?_)))))))))))))
 obtain ⟨zz, hzl, hs⟩ : ∃ zz : List Value, zz.length = 16 ∧ St ⟨w0, V, V⟩ w [(b10, .cells (eY { kind := 3 } (.slice none 0 0) (.slice none 0 0) (.slice none 0 0)).toArray 30 (0, 0)), (b8, .cells zz.toArray 30 (0, 0))] := ⟨_, rfl, hs⟩
 refine aH (dP (dN rfl rfl (aH (dP (dM rfl rfl (dM rfl rfl (lp (bN rfl rfl (i64w (by omega))) rfl (dN rfl rfl (aH (aF (dP (dM rfl rfl (aH ?_)))))))))))))
 refine bQ (dP (lp (bI rfl rfl) rfl (dN rfl rfl (aH (aY rfl rfl (dP (lp (bI rfl rfl) rfl (dN rfl rfl (aH (aY rfl rfl (aF (dP (lp (bI rfl rfl) rfl ?_)))))))))))))
 refine dN rfl rfl (aH (aY rfl rfl (dP (lp (bI rfl rfl) rfl (dN rfl rfl (aH (cO rfl rfl (aW (cO rfl rfl (aB (dM rfl rfl (dM rfl rfl (aZ ok_182 rfl rfl (c_Name hs.isIn hb n rfl (by omega) (by omega)) rfl (fun v59 w HF => ?_))))))))))))))
 obtain ⟨hc, out, o, ok, rfl, hr⟩ := HF
 replace hs := hs.frame hc
 refine dM rfl rfl (dO rfl rfl rfl (dO rfl rfl rfl (dO rfl rfl rfl (lp (aR fo_30_7 rfl) rfl (aJ (dQ 0 hs k_9 rfl rfl rfl rfl rfl rfl rfl (fun w hs => dN rfl rfl (aH (aF (dP (dM rfl rfl (lp (cS rfl) rfl (aH (bJ rfl (fun hc5 => ?_) (fun hc5 => ?_)))))))))))))))
 obtain rfl : ok = false := by simpa using hc5
 refine dP (lp (bM (vs := []) (ps := []) rfl bz_30) rfl (aJ (dR 1 hs eJ rfl rfl rfl rfl hzl (aG rfl) rfl (fun w hs => dN rfl rfl (aH (aV ⟨_, fX ⟨_, rfl, aP eJ (hs.g 1 rfl) rfl⟩ rfl, ?_⟩))))))
 exact ⟨V, _, false, rfl, (hs.drop hb10).drop hb8, rfl, aG rfl, .inr ⟨rfl, by simp only [body, hr.bad.1, Option.map_none]⟩⟩
 obtain rfl : ok = true := by simpa using hc5
 have hRR : RRec V { kind := 3, host := out } (eY { kind := 3, host := out } (.slice none 0 0) (.slice none 0 0) (.slice none 0 0)) := ⟨_, _, _, rfl, RB.nil V, fF.nil V, eV.nil V⟩
 replace hs : St ⟨w0, V, V⟩ _ [(b10, .cells (eY { kind := 3, host := out } (.slice none 0 0) (.slice none 0 0) (.slice none 0 0)).toArray 30 (0, 0)), (b8, .cells zz.toArray 30 (0, 0))] := hs
 refine aW (dP (lp (aO rfl (aP eJ (hs.g 0 rfl) hRR.flat.2)) rfl (aJ (dR 1 hs eJ rfl rfl rfl hRR.flat.2 hzl hRR.flat.1 rfl (fun w hs => dN rfl rfl (aH (aV ⟨_, fX ⟨_, rfl, aP eJ (hs.g 1 rfl) hRR.flat.2⟩ rfl, ?_⟩)))))))
 exact ⟨V, _, true, rfl, (hs.drop hb10).drop hb8, hRR.flat.2, hRR.flat.1, .inl ⟨rfl, _, by simp only [body, hr.ok, Option.map_some], hRR⟩⟩
set_option maxHeartbeats 1000000 in
theorem c_Body5 (hV : V.In w0) (hb : RB V mv l) (n : Nat) (hn : off = n) (len : Nat) {lv : Int} (hlv : lv = len) (h1 : n ≤ 1152921504606746970) (hlen : len ≤ 65536) (h2 : l.length ≤ 4294967296) :
  eC Tryz.prog 126 #[mv, .int .i64 off, .int .i64 5, .int .i64 lv] w0 fun v w' => ∃ (V' : Vw) (rc : List Value) (ok : Bool), v = .tuple #[.agg rc.toArray, .bool ok] ∧ St ⟨w0, V, V'⟩ w' [] ∧ SBody V' l n 5 len ok rc := by
 subst hn hlv
 obtain ⟨a, cap, rfl, hcap, ha⟩ := hb.form
 have hs := St.start hV
 refine aT [_, _, _, _] Tryz.func126 Tryz.ntmps126 Tryz.results126 rfl rfl (dP (aJ (aX hs z_30 rfl (fun b8 w hb8 he8 hs => dN rfl rfl (aH (dP (dM rfl rfl (lp (bL rfl (by rfl) (bu_30_5 _)) rfl (aJ (aX hs z_30 rfl (fun b10 w hb10 he10 hs => aJ (dR 0 hs eJ rfl rfl rfl (by simp) (by simp) (aG (by decide +kernel)) rfl (fun w hs => ?_)))))))))))))
 obtain ⟨zz, hzl, hs⟩ : ∃ zz : List Value, zz.length = 16 ∧ St ⟨w0, V, V⟩ w [(b10, .cells (eY { kind := 5 } (.slice none 0 0) (.slice none 0 0) (.slice none 0 0)).toArray 30 (0, 0)), (b8, .cells zz.toArray 30 (0, 0))] := ⟨_, rfl, hs⟩
 refine aH (dP (dN rfl rfl (aH (dP (dM rfl rfl (dM rfl rfl (lp (bN rfl rfl (i64w (by omega))) rfl (dN rfl rfl (aH (aF (dP (dM rfl rfl (aH ?_)))))))))))))
 refine bQ (dP (lp (bI rfl rfl) rfl (dN rfl rfl (aH (aY rfl rfl (dP (lp (bI rfl rfl) rfl (dN rfl rfl (aH (aY rfl rfl (aF (dP (lp (bI rfl rfl) rfl ?_)))))))))))))
 refine dN rfl rfl (aH (aY rfl rfl (dP (lp (bI rfl rfl) rfl (dN rfl rfl (aH (aY rfl rfl (aB (lp (bI rfl rfl) rfl (dN rfl rfl (aH (cO rfl rfl (aB ?_)))))))))))))
 refine dM rfl rfl (dM rfl rfl (aZ ok_182 rfl rfl (c_Name hs.isIn hb n rfl (by omega) (by omega)) rfl (fun v59 w HF => ?_)))
 obtain ⟨hc, out, o, ok, rfl, hr⟩ := HF
 replace hs := hs.frame hc
 refine dM rfl rfl (dO rfl rfl rfl (dO rfl rfl rfl (dO rfl rfl rfl (lp (aR fo_30_7 rfl) rfl (aJ (dQ 0 hs k_9 rfl rfl rfl rfl rfl rfl rfl (fun w hs => dN rfl rfl (aH (aF (dP (dM rfl rfl (lp (cS rfl) rfl (aH (bJ rfl (fun hc5 => ?_) (fun hc5 => ?_)))))))))))))))
 obtain rfl : ok = false := by simpa using hc5
 refine dP (lp (bM (vs := []) (ps := []) rfl bz_30) rfl (aJ (dR 1 hs eJ rfl rfl rfl rfl hzl (aG rfl) rfl (fun w hs => dN rfl rfl (aH (aV ⟨_, fX ⟨_, rfl, aP eJ (hs.g 1 rfl) rfl⟩ rfl, ?_⟩))))))
 exact ⟨V, _, false, rfl, (hs.drop hb10).drop hb8, rfl, aG rfl, .inr ⟨rfl, by simp only [body, hr.bad.1, Option.map_none]⟩⟩
 obtain rfl : ok = true := by simpa using hc5
 have hRR : RRec V { kind := 5, host := out } (eY { kind := 5, host := out } (.slice none 0 0) (.slice none 0 0) (.slice none 0 0)) := ⟨_, _, _, rfl, RB.nil V, fF.nil V, eV.nil V⟩
 replace hs : St ⟨w0, V, V⟩ _ [(b10, .cells (eY { kind := 5, host := out } (.slice none 0 0) (.slice none 0 0) (.slice none 0 0)).toArray 30 (0, 0)), (b8, .cells zz.toArray 30 (0, 0))] := hs
 refine aW (dP (lp (aO rfl (aP eJ (hs.g 0 rfl) hRR.flat.2)) rfl (aJ (dR 1 hs eJ rfl rfl rfl hRR.flat.2 hzl hRR.flat.1 rfl (fun w hs => dN rfl rfl (aH (aV ⟨_, fX ⟨_, rfl, aP eJ (hs.g 1 rfl) hRR.flat.2⟩ rfl, ?_⟩)))))))
 exact ⟨V, _, true, rfl, (hs.drop hb10).drop hb8, hRR.flat.2, hRR.flat.1, .inl ⟨rfl, _, by simp only [body, hr.ok, Option.map_some], hRR⟩⟩
set_option maxHeartbeats 1000000 in
theorem c_Body6 (hV : V.In w0) (hb : RB V mv l) (n : Nat) (hn : off = n) (len : Nat) {lv : Int} (hlv : lv = len) (h1 : n ≤ 1152921504606746970) (hlen : len ≤ 65536) (h2 : l.length ≤ 4294967296) :
  eC Tryz.prog 126 #[mv, .int .i64 off, .int .i64 6, .int .i64 lv] w0 fun v w' => ∃ (V' : Vw) (rc : List Value) (ok : Bool), v = .tuple #[.agg rc.toArray, .bool ok] ∧ St ⟨w0, V, V'⟩ w' [] ∧ SBody V' l n 6 len ok rc := by
 subst hn hlv
 obtain ⟨a, cap, rfl, hcap, ha⟩ := hb.form
 have hs := St.start hV
 refine aT [_, _, _, _] Tryz.func126 Tryz.ntmps126 Tryz.results126 rfl rfl (dP (aJ (aX hs z_30 rfl (fun b8 w hb8 he8 hs => dN rfl rfl (aH (dP (dM rfl rfl (lp (bL rfl (by rfl) (bu_30_5 _)) rfl (aJ (aX hs z_30 rfl (fun b10 w hb10 he10 hs => aJ (dR 0 hs eJ rfl rfl rfl (by simp) (by simp) (aG (by decide +kernel)) rfl (fun w hs => ?_)))))))))))))
 obtain ⟨zz, hzl, hs⟩ : ∃ zz : List Value, zz.length = 16 ∧ St ⟨w0, V, V⟩ w [(b10, .cells (eY { kind := 6 } (.slice none 0 0) (.slice none 0 0) (.slice none 0 0)).toArray 30 (0, 0)), (b8, .cells zz.toArray 30 (0, 0))] := ⟨_, rfl, hs⟩
 refine aH (dP (dN rfl rfl (aH (dP (dM rfl rfl (dM rfl rfl (lp (bN rfl rfl (i64w (by omega))) rfl (dN rfl rfl (aH (aF (dP (dM rfl rfl (aH ?_)))))))))))))
 refine bQ (dP (lp (bI rfl rfl) rfl (dN rfl rfl (aH (aY rfl rfl (dP (lp (bI rfl rfl) rfl (dN rfl rfl (aH (aY rfl rfl (aF (dP (lp (bI rfl rfl) rfl ?_)))))))))))))
 refine dN rfl rfl (aH (aY rfl rfl (dP (lp (bI rfl rfl) rfl (dN rfl rfl (aH (aY rfl rfl (aB (lp (bI rfl rfl) rfl (dN rfl rfl (aH (aY rfl rfl (dP ?_)))))))))))))
 refine lp (bI rfl rfl) rfl (dN rfl rfl (aH (cO rfl rfl (dP (dM rfl rfl (dM rfl rfl (lp (aR fo_30_9 rfl) rfl (aJ (o_bslice (vls := [[.pointer (some ⟨b10, 9, none⟩)]]) el_324 hs rfl rfl rfl rfl (by simp) (by decide) (by decide) rfl (fun b70 w hb70 he70 hs => ?_))))))))))
 obtain ⟨V1, hle1, hbv, hs⟩ := hs.give hb70
 have hsv : SlV V1 1 (.slice (some ⟨b70, 0, none⟩) 1 1) 1 ([9].map fun q => Value.pointer (some ⟨b10, q, none⟩)) := SlV.cells (sp := []) (by rw [List.append_nil]; exact hbv) rfl (Nat.le_refl _)
 replace hb := hb.mono hle1
 refine aZ ok_183 rfl rfl (c_words hs.isIn hb n rfl (by omega) (by omega) (hs.g 0 rfl) (hs.off (k := 0) rfl) [9] (by simp [eY]) hsv (by decide)) rfl (fun v71 w HF => ?_)
 obtain ⟨ok, o, cs', rfl, hc, hws⟩ := HF
 replace hs := hs.frame1 (k := 0) rfl rfl hc
 have hws1 := words1 hws
 refine dM rfl rfl (dO rfl rfl rfl (dO rfl rfl rfl (dN rfl rfl (dN rfl rfl (aH (dP (dM rfl rfl (aH (bJ rfl (fun hc6 => ?_) (fun hc6 => ?_))))))))))
 subst hc6
 obtain ⟨hw, rfl, rfl⟩ := hws1.1 rfl
 replace hs : St ⟨w0, V, V1⟩ _ [(b10, .cells (eY { kind := 6, n1 := w16 l n } (.slice none 0 0) (.slice none 0 0) (.slice none 0 0)).toArray 30 (0, 0)), (b8, .cells zz.toArray 30 (0, 0))] := hs
 refine aB (dM rfl rfl (dM rfl rfl (aZ ok_182 rfl rfl (c_Name hs.isIn hb (n + 2) rfl (by omega) (by omega)) rfl (fun v78 w HF => ?_))))
 obtain ⟨hc, out, o, ok, rfl, hr⟩ := HF
 replace hs := hs.frame hc
 refine dM rfl rfl (dO rfl rfl rfl (dO rfl rfl rfl (dO rfl rfl rfl (lp (aR fo_30_7 rfl) rfl (aJ (dQ 0 hs k_9 rfl rfl rfl rfl rfl rfl rfl (fun w hs => dN rfl rfl (aH (aF (dP (dM rfl rfl (lp (cS rfl) rfl (aH (bJ rfl (fun hc7 => ?_) (fun hc7 => ?_)))))))))))))))
 obtain rfl : ok = false := by simpa using hc7
 refine dP (lp (bM (vs := []) (ps := []) rfl bz_30) rfl (aJ (dR 1 hs eJ rfl rfl rfl rfl hzl (aG rfl) rfl (fun w hs => dN rfl rfl (aH (aV ⟨_, fX ⟨_, rfl, aP eJ (hs.g 1 rfl) rfl⟩ rfl, ?_⟩))))))
 exact ⟨V1, _, false, rfl, (hs.drop hb10).drop hb8, rfl, aG rfl, .inr ⟨rfl, by simp only [body, rd16_yes hw, Option.bind_some, hr.bad.1, Option.map_none]⟩⟩
 obtain rfl : ok = true := by simpa using hc7
 have hRR : RRec V1 { kind := 6, n1 := w16 l n, host := out } (eY { kind := 6, n1 := w16 l n, host := out } (.slice none 0 0) (.slice none 0 0) (.slice none 0 0)) := ⟨_, _, _, rfl, RB.nil V1, fF.nil V1, eV.nil V1⟩
 replace hs : St ⟨w0, V, V1⟩ _ [(b10, .cells (eY { kind := 6, n1 := w16 l n, host := out } (.slice none 0 0) (.slice none 0 0) (.slice none 0 0)).toArray 30 (0, 0)), (b8, .cells zz.toArray 30 (0, 0))] := hs
 refine aW (dP (lp (aO rfl (aP eJ (hs.g 0 rfl) hRR.flat.2)) rfl (aJ (dR 1 hs eJ rfl rfl rfl hRR.flat.2 hzl hRR.flat.1 rfl (fun w hs => dN rfl rfl (aH (aV ⟨_, fX ⟨_, rfl, aP eJ (hs.g 1 rfl) hRR.flat.2⟩ rfl, ?_⟩)))))))
 exact ⟨V1, _, true, rfl, (hs.drop hb10).drop hb8, hRR.flat.2, hRR.flat.1, .inl ⟨rfl, _, by simp only [body, rd16_yes hw, Option.bind_some, hr.ok, Option.map_some], hRR⟩⟩
 subst hc6
 have hw := hws1.2 rfl
 refine aW (aF (dP (dM rfl rfl (lp (cS rfl) rfl (aH (cO rfl rfl (dP (lp (bM (vs := []) (ps := []) rfl bz_30) rfl (aJ (dR 1 hs eJ rfl rfl rfl rfl hzl (aG rfl) rfl (fun w hs => dN rfl rfl (aH (aV ⟨_, fX ⟨_, rfl, aP eJ (hs.g 1 rfl) rfl⟩ rfl, ?_⟩)))))))))))))
 exact ⟨V1, _, false, rfl, (hs.drop hb10).drop hb8, rfl, aG rfl, .inr ⟨rfl, by simp only [body, rd16_no hw, Option.bind_none]⟩⟩
set_option maxHeartbeats 1000000 in
theorem c_Body9 (hV : V.In w0) (hb : RB V mv l) (n : Nat) (hn : off = n) (len : Nat) {lv : Int} (hlv : lv = len) (h1 : n ≤ 1152921504606746970) (hlen : len ≤ 65536) (h2 : l.length ≤ 4294967296) :
  eC Tryz.prog 126 #[mv, .int .i64 off, .int .i64 9, .int .i64 lv] w0 fun v w' => ∃ (V' : Vw) (rc : List Value) (ok : Bool), v = .tuple #[.agg rc.toArray, .bool ok] ∧ St ⟨w0, V, V'⟩ w' [] ∧ SBody V' l n 9 len ok rc := by
 subst hn hlv
 obtain ⟨a, cap, rfl, hcap, ha⟩ := hb.form
 have hs := St.start hV
 refine aT [_, _, _, _] Tryz.func126 Tryz.ntmps126 Tryz.results126 rfl rfl (dP (aJ (aX hs z_30 rfl (fun b8 w hb8 he8 hs => dN rfl rfl (aH (dP (dM rfl rfl (lp (bL rfl (by rfl) (bu_30_5 _)) rfl (aJ (aX hs z_30 rfl (fun b10 w hb10 he10 hs => aJ (dR 0 hs eJ rfl rfl rfl (by simp) (by simp) (aG (by decide +kernel)) rfl (fun w hs => ?_)))))))))))))
 obtain ⟨zz, hzl, hs⟩ : ∃ zz : List Value, zz.length = 16 ∧ St ⟨w0, V, V⟩ w [(b10, .cells (eY { kind := 9 } (.slice none 0 0) (.slice none 0 0) (.slice none 0 0)).toArray 30 (0, 0)), (b8, .cells zz.toArray 30 (0, 0))] := ⟨_, rfl, hs⟩
 refine aH (dP (dN rfl rfl (aH (dP (dM rfl rfl (dM rfl rfl (lp (bN rfl rfl (i64w (by omega))) rfl (dN rfl rfl (aH (aF (dP (dM rfl rfl (aH ?_)))))))))))))
 refine bQ (dP (lp (bI rfl rfl) rfl (dN rfl rfl (aH (aY rfl rfl (dP (lp (bI rfl rfl) rfl (dN rfl rfl (aH (aY rfl rfl (aF (dP (lp (bI rfl rfl) rfl ?_)))))))))))))
 refine dN rfl rfl (aH (aY rfl rfl (dP (lp (bI rfl rfl) rfl (dN rfl rfl (aH (aY rfl rfl (aB (lp (bI rfl rfl) rfl (dN rfl rfl (aH (aY rfl rfl (dP ?_)))))))))))))
 refine lp (bI rfl rfl) rfl (dN rfl rfl (aH (aY rfl rfl (dP (lp (bI rfl rfl) rfl (dN rfl rfl (aH (cO rfl rfl (dP (dM rfl rfl (dM rfl rfl (lp (aR fo_30_9 rfl) rfl (lp (aR fo_30_10 rfl) rfl ?_)))))))))))))
 refine lp (aR fo_30_11 rfl) rfl (aJ (o_bslice (vls := [[.pointer (some ⟨b10, 9, none⟩)], [.pointer (some ⟨b10, 10, none⟩)], [.pointer (some ⟨b10, 11, none⟩)]]) el_324 hs rfl rfl rfl rfl (by simp) (by decide) (by decide) rfl (fun b91 w hb91 he91 hs => ?_)))
 obtain ⟨V1, hle1, hbv, hs⟩ := hs.give hb91
 have hsv : SlV V1 1 (.slice (some ⟨b91, 0, none⟩) 3 3) 3 ([9, 10, 11].map fun q => Value.pointer (some ⟨b10, q, none⟩)) := SlV.cells (sp := []) (by rw [List.append_nil]; exact hbv) rfl (Nat.le_refl _)
 replace hb := hb.mono hle1
 refine aZ ok_183 rfl rfl (c_words hs.isIn hb n rfl (by omega) (by omega) (hs.g 0 rfl) (hs.off (k := 0) rfl) [9, 10, 11] (by simp [eY]) hsv (by decide)) rfl (fun v92 w HF => ?_)
 obtain ⟨ok, o, cs', rfl, hc, hws⟩ := HF
 replace hs := hs.frame1 (k := 0) rfl rfl hc
 have hws1 := words3 hws
 refine dM rfl rfl (dO rfl rfl rfl (dO rfl rfl rfl (dN rfl rfl (dN rfl rfl (aH (dP (dM rfl rfl (aH (bJ rfl (fun hc7 => ?_) (fun hc7 => ?_))))))))))
 subst hc7
 obtain ⟨hw, rfl, rfl⟩ := hws1.1 rfl
 replace hs : St ⟨w0, V, V1⟩ _ [(b10, .cells (eY { kind := 9, n1 := w16 l n, n2 := w16 l (n + 2), n3 := w16 l (n + 4) } (.slice none 0 0) (.slice none 0 0) (.slice none 0 0)).toArray 30 (0, 0)), (b8, .cells zz.toArray 30 (0, 0))] := hs
 refine aB (dM rfl rfl (dM rfl rfl (aZ ok_182 rfl rfl (c_Name hs.isIn hb (n + 6) rfl (by omega) (by omega)) rfl (fun v99 w HF => ?_))))
 obtain ⟨hc, out, o, ok, rfl, hr⟩ := HF
 replace hs := hs.frame hc
 refine dM rfl rfl (dO rfl rfl rfl (dO rfl rfl rfl (dO rfl rfl rfl (lp (aR fo_30_7 rfl) rfl (aJ (dQ 0 hs k_9 rfl rfl rfl rfl rfl rfl rfl (fun w hs => dN rfl rfl (aH (aF (dP (dM rfl rfl (lp (cS rfl) rfl (aH (bJ rfl (fun hc8 => ?_) (fun hc8 => ?_)))))))))))))))
 obtain rfl : ok = false := by simpa using hc8
 refine dP (lp (bM (vs := []) (ps := []) rfl bz_30) rfl (aJ (dR 1 hs eJ rfl rfl rfl rfl hzl (aG rfl) rfl (fun w hs => dN rfl rfl (aH (aV ⟨_, fX ⟨_, rfl, aP eJ (hs.g 1 rfl) rfl⟩ rfl, ?_⟩))))))
 exact ⟨V1, _, false, rfl, (hs.drop hb10).drop hb8, rfl, aG rfl, .inr ⟨rfl, by simp only [body, rd16_yes (show n + 2 ≤ l.length by omega), rd16_yes (show n + 2 + 2 ≤ l.length by omega), rd16_yes (show n + 4 + 2 ≤ l.length by omega), Option.bind_some, hr.bad.1, Option.map_none]⟩⟩
 obtain rfl : ok = true := by simpa using hc8
 have hRR : RRec V1 { kind := 9, n1 := w16 l n, n2 := w16 l (n + 2), n3 := w16 l (n + 4), host := out } (eY { kind := 9, n1 := w16 l n, n2 := w16 l (n + 2), n3 := w16 l (n + 4), host := out } (.slice none 0 0) (.slice none 0 0) (.slice none 0 0)) := ⟨_, _, _, rfl, RB.nil V1, fF.nil V1, eV.nil V1⟩
 replace hs : St ⟨w0, V, V1⟩ _ [(b10, .cells (eY { kind := 9, n1 := w16 l n, n2 := w16 l (n + 2), n3 := w16 l (n + 4), host := out } (.slice none 0 0) (.slice none 0 0) (.slice none 0 0)).toArray 30 (0, 0)), (b8, .cells zz.toArray 30 (0, 0))] := hs
 refine aW (dP (lp (aO rfl (aP eJ (hs.g 0 rfl) hRR.flat.2)) rfl (aJ (dR 1 hs eJ rfl rfl rfl hRR.flat.2 hzl hRR.flat.1 rfl (fun w hs => dN rfl rfl (aH (aV ⟨_, fX ⟨_, rfl, aP eJ (hs.g 1 rfl) hRR.flat.2⟩ rfl, ?_⟩)))))))
 exact ⟨V1, _, true, rfl, (hs.drop hb10).drop hb8, hRR.flat.2, hRR.flat.1, .inl ⟨rfl, _, by simp only [body, rd16_yes (show n + 2 ≤ l.length by omega), rd16_yes (show n + 2 + 2 ≤ l.length by omega), rd16_yes (show n + 4 + 2 ≤ l.length by omega), Option.bind_some, hr.ok, Option.map_some], hRR⟩⟩
 subst hc7
 have hw := hws1.2 rfl
 refine aW (aF (dP (dM rfl rfl (lp (cS rfl) rfl (aH (cO rfl rfl (dP (lp (bM (vs := []) (ps := []) rfl bz_30) rfl (aJ (dR 1 hs eJ rfl rfl rfl rfl hzl (aG rfl) rfl (fun w hs => dN rfl rfl (aH (aV ⟨_, fX ⟨_, rfl, aP eJ (hs.g 1 rfl) rfl⟩ rfl, ?_⟩)))))))))))))
 exact ⟨V1, _, false, rfl, (hs.drop hb10).drop hb8, rfl, aG rfl, .inr ⟨rfl, by simp only [body]; unfold rd16; split <;> first | rfl | (simp only [Option.bind_some]; split <;> first | rfl | (simp only [Option.bind_some]; rw [if_neg (by omega)]; rfl))⟩⟩
end
end Go.Proofs.YtgpfjlfkaoffeaaGreatDoor

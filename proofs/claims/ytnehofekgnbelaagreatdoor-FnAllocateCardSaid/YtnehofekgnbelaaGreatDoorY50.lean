/-
  spec.Allocate.
-/
import Derived.Test.YtnehofekgnbelaaGreatDoorY49
import Derived.Test.YtnehofekgnbelaaGreatDoorY45
namespace Go.Proofs.YtnehofekgnbelaaGreatDoor
open Go.RowKit
set_option linter.unusedVariables false
set_option maxRecDepth 100000
set_option maxHeartbeats 1000000
theorem zjF (base D : Nat) (Rs : List RIn) (d : Desk) (o : OpIn) (w : World) (h : SDesk w base D Rs d) (hg : ∀ R ∈ Rs, Good R) (hd : Dis Rs) (hne : 0 < Rs.length) (h4 : Rs.length ≤ 1000) (hlen : (zF 0 Rs).length ≤ 100000) (hn : d.held.length ≤ 1000) (hB : base ≤ w.heap.size) (ho : OpOK o) (hoks : ∀ e ∈ d.held, e.a.ok) :
  Calls Tryz.prog 36 #[.pointer (some ⟨D, 0, none⟩), .agg #[.int .i64 o.kind, .string o.id, .string o.at_, .string o.asked]] w (yF w base D Rs (stepD Rs (rdL Rs) d o).2 (stepD Rs (rdL Rs) d o).1) := by
 by_cases k0 : o.kind = 0
 ·have := zjD base D Rs d o.id o.at_ o.asked (stepD Rs (rdL Rs) d o).2 (stepD Rs (rdL Rs) d o).1 w h hB (fun W hW hBW => zlC base D Rs d o W hW hg hd hne h4 hlen hn hBW ho k0 0)
  rw [show ((o.kind : Nat) : Int) = 0 by omega]
  exact this
 ·by_cases k1 : o.kind = 1
  ·have e : stepD Rs (rdL Rs) d o = (⟨[], [], true⟩, ⟨d.held.filter fun e => !whoB e.id e.at_ o.id o.at_, d.last⟩) := by
    unfold stepD
    rw [k1]
    rfl
   rw [e, show ((o.kind : Nat) : Int) = 1 by omega]
   exact zjE base D Rs d o.id o.at_ o.asked w h hB hn
  ·have k2 : o.kind = 2 := by have := ho.k; omega
   have e : stepD Rs (rdL Rs) d o = (⟨Lib.join (mineT d.held o.id o.at_) [44], [], decide (0 < (mineE d.held o.id o.at_).length)⟩, d) := by
    unfold stepD
    rw [k2]
    rfl
   rw [e, show ((o.kind : Nat) : Int) = 2 by omega]
   exact zgV base D Rs d 2 o.id o.at_ o.asked w h hB hn hoks (by decide) (by decide)
theorem zmH {w : World} {base b : Nat} {e : TypeId} {size : Nat} {v : Value} {n : Nat} {xs : List Value} (h : w.ownsRow base e size v n xs) (hb : b ≤ base) : w.ownsRow b e size v n xs := by
 refine ⟨h.1, ?_⟩
 rcases h.2 with hn | ⟨g, cap, cur, hv, hbg, rest⟩
 ·exact .inl hn
 ·exact .inr ⟨g, cap, cur, hv, Nat.le_trans hb hbg, rest⟩
def xC (d : Desk) : Prop := ∀ e ∈ d.held, e.a.ok
theorem znC {d : Desk} (h : xC d) {a : Ad} (ha : a.ok) (id at_ : ByteArray) : xC (d.res a id at_) := by
 unfold Desk.res
 split
 ·exact h
 ·intro e he
  rcases List.mem_append.1 he with he | he
  ·exact h e he
  ·obtain rfl := List.mem_singleton.1 he
   exact ha
theorem tk_ok (al : List Ad) (h : ∀ a ∈ al, a.ok) : xC (zJ al) := by
 suffices H : ∀ (al : List Ad) (d : Desk), (∀ a ∈ al, a.ok) → xC d → xC (al.foldl (fun d a => d.res a otherB otherB) d) from H al _ h (fun e he => by cases he)
 intro al
 induction al with
 | nil => intro d _ h; exact h
 | cons a al ih => intro d h h1; exact ih _ (fun b hb => h b (by simp [hb])) (znC h1 (h a (by simp)) _ _)
theorem zmI {Rs : List RIn} {rd : Option Ad → List (Nat × Ad)} (hrd : Rd Rs rd) (hg : ∀ R ∈ Rs, Good R) {d : Desk} (h : xC d) {o : OpIn} (ho : OpOK o) : xC (stepD Rs rd d o).2 := by
 unfold stepD
 split
 ·cases hr : getR Rs rd d o.id o.at_ o.ad with
  | none => exact h
  | some p =>
   obtain ⟨i, a⟩ := p
   obtain ⟨R, h2, h3⟩ := zcV hrd hr
   intro e he
   rcases List.mem_append.1 he with he | he
   ·exact h e he
   ·obtain rfl := List.mem_singleton.1 he
    exact (hg R (List.mem_of_getElem? h2)).ads h3
 ·exact fun e he => h e (List.mem_filter.1 he).1
 ·exact h
theorem zlM {Rs : List RIn} {rd : Option Ad → List (Nat × Ad)} (hrd : Rd Rs rd) (hg : ∀ R ∈ Rs, Good R) {d : Desk} (h : xC d) (os : List OpIn) (ho : ∀ o ∈ os, OpOK o) : xC (runD Rs rd d os).2 := by
 suffices H : ∀ (os : List OpIn) (p : List Giv × Desk), (∀ o ∈ os, OpOK o) → xC p.2 → xC (os.foldl (runF Rs rd) p).2 from H os ([], d) ho h
 intro os
 induction os with
 | nil => intro p _ h; exact h
 | cons o os ih => intro p ho h; exact ih _ (fun q hq => ho q (by simp [hq])) (zmI hrd hg h (ho o (by simp)))
theorem zjG {Rs : List RIn} (h : 0 ≤ sizeZ Rs) (h4 : Rs.length ≤ 4) : (zF 0 Rs).length ≤ 100000 := by
 unfold sizeZ at h
 split at h
 ·rename_i hc
  have H : ∀ (l : List RIn) (k : Nat), (∀ R ∈ l, (zC R).n - (zB R).n ≤ 1000) → (zF k l).length ≤ l.length * 1001 := by
   intro l
   induction l with
   | nil => intro k _; simp [zF]
   | cons R l ih =>
    intro k hl
    unfold zF
    rw [List.length_append, List.length_map, zQ, List.length_cons]
    have h1 := hl R (by simp)
    have h2 := ih (k + 1) (fun Q hQ => hl Q (by simp [hQ]))
    omega
  have := H Rs 0 hc.2.1
  omega
 ·omega
theorem zfC {l m : List (List UInt8)} (hp : l.Perm m) (hs : l.Pairwise (· ≤ ·)) : l = sortL m := by
 unfold sortL
 have h1 := List.pairwise_mergeSort (le := fun x y : List UInt8 => decide (x ≤ y)) (fun a b c h1 h2 => by
  rw [decide_eq_true_eq] at *
  exact List.le_trans h1 h2) (fun a b => by
  rw [Bool.or_eq_true, decide_eq_true_eq, decide_eq_true_eq]
  exact List.le_total a b) m
 have h2 := List.mergeSort_perm m (fun x y : List UInt8 => decide (x ≤ y))
 refine List.Perm.eq_of_pairwise (le := (· ≤ ·)) (fun a b _ _ h3 h4 => List.le_antisymm h3 h4) hs (h1.imp (fun h => of_decide_eq_true h)) (hp.trans h2.symm)
theorem zgW {T : List (List UInt8)} {x : List UInt8} {i : Nat} (hT : T.Pairwise (· ≤ ·)) (hi : i ≤ T.length) (hr : ∀ y ∈ T.drop i, x ≤ y) (hl : ∀ y ∈ T.take i, y ≤ x) : (T.take i ++ x :: T.drop i).Pairwise (· ≤ ·) := by
 have hTT := hT
 rw [← List.take_append_drop i T] at hTT
 obtain ⟨h1, h2, h3⟩ := List.pairwise_append.1 hTT
 refine List.pairwise_append.2 ⟨h1, List.pairwise_cons.2 ⟨hr, h2⟩, fun a ha b hb => ?_⟩
 rcases List.mem_cons.1 hb with rfl | hb
 ·exact hl a ha
 ·exact h3 a ha b hb
def zgX (w : World) (gs : List Giv) (ls : List (List UInt8)) (e : Ending) (w' : World) : Prop :=
 ∃ gao gcap lao lcap, e = .returned (.tuple #[.slice gao gs.length gcap, .slice lao ls.length lcap]) ∧ Below w.heap.size w w' ∧
  (∀ (j : Nat) (g : Giv), gs[j]? = some g → ∃ b, gao = some ⟨b, 0, none⟩ ∧ b < w'.heap.size ∧ w'.cell? ⟨b, j * 3, none⟩ = some (.string ⟨g.addr.toArray⟩) ∧ w'.cell? ⟨b, j * 3 + 1, none⟩ = some (.string ⟨g.gate.toArray⟩) ∧ w'.cell? ⟨b, j * 3 + 2, none⟩ = some (.bool g.ok)) ∧
  ∀ (j : Nat) (x : List UInt8), ls[j]? = some x → ∃ b, lao = some ⟨b, 0, none⟩ ∧ b < w'.heap.size ∧ w'.cell? ⟨b, j, none⟩ = some (.string ⟨x.toArray⟩)
structure AS2 (w : World) (D : Nat) (Rs : List RIn) (d : Desk) (gs : List Giv) (v vl : Value) (wr : World) : Prop where
 d : SDesk wr w.heap.size D Rs d
 g : GRow wr w.heap.size v gs
 l : SRow wr w.heap.size vl []
 b : Below w.heap.size w wr
theorem zmJ {b' : Value} (A C : List Value) (a b : Value) : ((A ++ a :: b :: C).set (A.length + 1) a).set A.length b' = A ++ b' :: a :: C := by
 induction A with
 | nil => rfl
 | cons x A ih => simp
theorem zlD (ss : List ByteArray) (s : ByteArray) (n : Nat) (hn : n < ss.length) : (((ss.take (n + 1) ++ s :: ss.drop (n + 1)).map Value.string).set (n + 1) (.string ss[n])).set n (.string s) = (ss.take n ++ s :: ss.drop n).map Value.string := by
 have h1 : ss.take (n + 1) = ss.take n ++ [ss[n]] := List.take_succ_eq_append_getElem hn
 have h2 : ss.drop n = ss[n] :: ss.drop (n + 1) := List.drop_eq_getElem_cons hn
 have hl : ((ss.take n).map Value.string).length = n := by rw [List.length_map, List.length_take]; omega
 have h := zmJ (b' := .string s) ((ss.take n).map Value.string) ((ss.drop (n + 1)).map Value.string) (.string ss[n]) (.string s)
 rw [hl] at h
 rw [h1, h2]
 simp only [List.append_assoc, List.map_append, List.map_cons, List.cons_append, List.nil_append]
 exact h
theorem zcM {w : World} {base g k c m : Nat} {ss : List ByteArray} {s : ByteArray} (hk : ss.length = k) (h : OwnP w base 9 1 isStr g (k + 1) c ((ss.take m ++ s :: ss.drop m).map Value.string)) : SRow w base (.slice (some ⟨g, 0, none⟩) (k + 1) c) (ss.take m ++ s :: ss.drop m) := by
 have e : (ss.take m ++ s :: ss.drop m).length = k + 1 := by
  rw [List.length_append, List.length_cons, ← Nat.add_assoc, ← List.length_append, List.take_append_drop, hk]
 exact .inr ⟨g, c, by rw [e], by rw [e]; exact h⟩
theorem zmK {ss : List ByteArray} {s : ByteArray} (hs : (ss.map bl).Pairwise (· ≤ ·)) {n : Nat} (hn : n < ss.length) (h : ¬ bl s < bl ss[n]) : ∀ y ∈ ss.take (n + 1), bl y ≤ bl s := by
 intro y hy
 have h0 : bl ss[n] ≤ bl s := List.not_lt.1 h
 rw [List.take_succ_eq_append_getElem hn] at hy
 rw [← List.take_append_drop n ss, List.drop_eq_getElem_cons hn, List.map_append, List.map_cons] at hs
 obtain ⟨_, _, h3⟩ := List.pairwise_append.1 hs
 rcases List.mem_append.1 hy with hy | hy
 ·exact List.le_trans (h3 _ (List.mem_map_of_mem hy) _ (by simp)) h0
 ·obtain rfl := List.mem_singleton.1 hy
  exact h0
theorem zjH {ss : List ByteArray} {s : ByteArray} {m : Nat} {L : List (List UInt8)} {x : List UInt8} (hs : (ss.map bl).Pairwise (· ≤ ·)) (hp : (ss.map bl).Perm L) (hx : bl s = x) (hm : m ≤ ss.length) (hr : ∀ y ∈ ss.drop m, bl s ≤ bl y) (hl : ∀ y ∈ ss.take m, bl y ≤ bl s) :
  ((ss.take m ++ s :: ss.drop m).map bl).Pairwise (· ≤ ·) ∧ ((ss.take m ++ s :: ss.drop m).map bl).Perm (L ++ [x]) := by
 subst hx
 have e : (ss.take m ++ s :: ss.drop m).map bl = (ss.map bl).take m ++ bl s :: (ss.map bl).drop m := by
  rw [List.map_append, List.map_cons, List.map_take, List.map_drop]
 rw [e]
 refine ⟨zgW hs (by rw [List.length_map]; exact hm) (fun y hy => ?_) (fun y hy => ?_), ?_⟩
 ·rw [← List.map_drop] at hy
  obtain ⟨z, hz, rfl⟩ := List.mem_map.1 hy
  exact hr z hz
 ·rw [← List.map_take] at hy
  obtain ⟨z, hz, rfl⟩ := List.mem_map.1 hy
  exact hl z hz
 ·refine (List.perm_middle.trans ?_)
  rw [List.take_append_drop]
  exact (List.Perm.cons _ hp).trans (List.perm_append_singleton _ _).symm
theorem zaW (ao : Option Addr) (cap0 : Nat) (xs : List Tx) (Rs : List RIn) (vt : Value) (ts : List ByteArray) (al : List Ad) (last : ByteArray) (la : Option Ad) (oo : Option Addr) (oc : Nat) (os : List OpIn) (w : World)
  (h : RgsV w ao xs) (hx : TxAll xs Rs) (h4 : xs.length ≤ 4) (hsz : 0 ≤ sizeZ Rs) (ht : SlAt w vt (strVals ts)) (htk : zcY ts al) (htl : ts.length ≤ 100) (hla : zfM last la) (hops : OpsV w oo os) (hfit : ∀ o ∈ os, OpFit o) (hol : os.length ≤ 60) :
  Calls Tryz.prog 17 #[.slice ao xs.length cap0, vt, .string last, .slice oo os.length oc] w
   (zgX w (runD Rs (rdL Rs) ⟨(zJ al).held, la⟩ os).1 (sortL ((runD Rs (rdL Rs) ⟨(zJ al).held, la⟩ os).2.held.map leftB))) := by
 have hsetB := (zeA hsz).1
 have hi := zdA hx hsetB
 obtain ⟨hne, hg⟩ := zcZ hx hi
 have hd := zlJ hg hi
 have hRl : Rs.length ≤ 4 := by rw [hx.1]; exact h4
 have hlen := zjG hsz hRl
 have HSTEP := zh (fun (d : Desk) (o : OpIn) (D : Nat) (W : World) (hs : SDesk W w.heap.size D Rs d) (hn : d.held.length ≤ 1000) (hB : w.heap.size ≤ W.heap.size) (ho : OpOK o) (hok : ∀ e ∈ d.held, e.a.ok) => zjF w.heap.size D Rs d o W hs hg hd hne (by omega) hlen hn hB ho hok)
 have HRD := zh (rd_ok Rs hg hd hne)
 have HG := zh hg
 have HSO := zh (fun (W : World) (hb : RgsV W ao xs) => xM ao cap0 xs Rs W hb hx (by omega))
 have HSET := zh hsetB
 have H := zh h
 have HTK := zh htk
 have HLA := zh hla
 have HOPS := zh hops
 have HFIT := zh hfit
 have HOKA := zh (show ∀ a ∈ al, a.ok from fun a ha => by
  obtain ⟨j, hj⟩ := List.getElem?_of_mem ha
  have hjl := (List.getElem?_eq_some_iff.1 hj).1
  have hl := htk.1
  obtain ⟨b, h1, _, h2, _⟩ := htk.2 j ts[j] (List.getElem?_eq_getElem (by omega))
  rw [hj] at h1
  cases h1
  exact h2)
 obtain ⟨tao, tcap, rfl, htc1, htc2, htn, htc⟩ := ht
 have HTN := zh htn
 have HTC := zh htc
 have hall := htk.1
 rw [strVals_length] at htc1 ⊢
 unfold maxLen at htc2
 obtain ⟨i0g, hig, hzg⟩ := Option.map_eq_some_iff.1 zlI
 simp only [Prod.mk.injEq] at hzg
 obtain ⟨hzg0, hzg1, hzg2⟩ := hzg
 have HI0g := zh hig
 have HZ0g := zh hzg0
 have HZ1g := zh hzg1
 have HZ2g := zh hzg2
 obtain ⟨j0, hj', hy⟩ := Option.map_eq_some_iff.1 zeU
 simp only [Prod.mk.injEq] at hy
 obtain ⟨hy0, hy1, hy2⟩ := hy
 have HJ0 := zh hj'
 have HY0 := zh hy0
 have HY1 := zh hy1
 have HY2 := zh hy2
 clear h hx hsz hsetB hi hg hd htn htc htk hla hops hfit hlen hig hzg0 hzg1 hzg2 hj' hy0 hy1 hy2
 go_enter Tryz.func17, Tryz.ntmps17
 go_wp2_with fail
 have hbD : Below w.heap.size w (w.alloc (.cells #[.slice none 0 0, .slice none 0 0, .bool false, .int .u32 0, .bool false] 81)) := (Below.refl _ _).alloc (Nat.le_refl _) _
 have hnD := heap_alloc_new w (.cells #[.slice none 0 0, .slice none 0 0, .bool false, .int .u32 0, .bool false] 81)
 refine (HSO.out _ (H.out.on hbD)).mono ?_
 rintro e w1 ⟨v, rfl, hb1, ho1⟩
 replace ho1 := ho1 HSET.out
 rw [HSET.out]
 obtain ⟨av, cv, rfl, _⟩ := yK ho1
 obtain ⟨D, hD⟩ : ∃ D, D = w.heap.size := ⟨_, rfl⟩
 have hr1 := row_on hb1 hnD
 rw [← hD] at hr1 ⊢
 have d0 := cell_of_row w1 D 0 _ _ _ hr1
 have z0 := frozen_of_row w1 D 0 _ _ hr1
 have HR1 := zh hr1
 have HB1 := zh (below_tr hbD hb1)
 have HO1 := zh (zmH ho1 hbD.size)
 have HDD := zh hD
 clear hbD hnD hb1 ho1 hr1 hD HSO
 go_wp2_with fail
 have n0 : ∀ x : UInt8, w1.cell? ⟨D, 0, none⟩ ≠ some (u8v x) := fun x => by rw [d0]; simp [u8v]
 have f0 : Fr [81] w.heap.size w1 (w1.setCell ⟨D, 0, none⟩ (.slice av Rs.length cv)) := Fr.set HR1.out (by simp) (Nat.le_of_eq HDD.out.symm) n0
 have HSD0 := zh (show SDesk (w1.setCell ⟨D, 0, none⟩ (.slice av Rs.length cv)) w.heap.size D Rs (zJ (al.take 0)) ∧ Below w.heap.size w (w1.setCell ⟨D, 0, none⟩ (.slice av Rs.length cv)) from
  ⟨⟨⟨_, _, ⟨false, 0⟩, heap_setCell_same w1 D 0 _ _ _ HR1.out, zeG HO1.out f0 (by decide), RowP.nil _ _ _ _ _, fun a h => (by cases h)⟩, Nat.le_of_eq HDD.out.symm⟩, HB1.out.setCell (by exact Nat.le_of_eq HDD.out.symm) _⟩)
 clear n0 f0 d0 z0 HR1 HO1 HB1
 generalize w1.setCell ⟨D, 0, none⟩ (.slice av Rs.length cv) = w2 at HSD0 ⊢
 go_loopw [34] (fun i wr => ∃ k : Nat, i = .int .i64 k ∧ k ≤ ts.length ∧ Hid (SDesk wr w.heap.size D Rs (zJ (al.take k)) ∧ Below w.heap.size w wr)) (fun i _ => ts.length - (intOf i).toNat)
 case atStart => exact ⟨0, rfl, by omega, HSD0⟩
 case round =>
  obtain ⟨k, rfl, hk, hr⟩ := hrel
  by_cases hlt : k < ts.length
  ·have tk : decide ((k : Int) < ts.length) = true := decide_eq_true (by omega)
   obtain ⟨b, off, rfl, hbl, c0⟩ := zbD (w := w) (tcap := tcap) HTN.out HTC.out hlt
   obtain ⟨a, ha1, ha2, ha3, ha4⟩ := HTK.out.2 k _ (List.getElem?_eq_getElem hlt)
   have c0 := (hr.out.2.cell (p := ⟨b, off + k, none⟩) hbl).trans c0
   have hbl := Nat.lt_of_lt_of_le hbl hr.out.2.size
   generalize ts[k] = s at *
   have HSD := zh hr.out.1
   have HBW := zh hr.out.2
   have HTK1 := zh (show zJ (al.take (k + 1)) = (zJ (al.take k)).res a otherB otherB by
    obtain ⟨hk', e⟩ := List.getElem?_eq_some_iff.1 ha1
    rw [List.take_succ_eq_append_getElem hk', e, zbX])
   have hdl : (zJ (al.take k)).held.length ≤ 1000 := by
    have h1 := yC (al.take k)
    have h2 := List.length_take_le k al
    omega
   have HRA := zh ha2
   clear hr ha1 ha2 ha3
   go_wp2_with fail
   refine (read_any s _ (by omega)).mono ?_
   rintro e w3 ⟨a2, ok, rfl, ha2, _, hb3⟩
   have hq : ok = true ∧ a2 = a := by
    rw [HRA.out] at ha2
    cases ok with
    | true => rw [if_pos rfl] at ha2; exact ⟨rfl, (Option.some.inj ha2).symm⟩
    | false => rw [if_neg (by decide)] at ha2; cases ha2
   obtain ⟨rfl, rfl⟩ := hq
   have HB3 := zh hb3
   clear ha2 hb3 c0
   unfold adv
   go_wp2_with fail
   have hba : Below w3.heap.size w3 (w3.alloc (.cells #[.bool a2.six, .int .u32 a2.n] 56)) := (Below.refl _ _).alloc (Nat.le_refl _) _
   have HS3 := zh ((HSD.out.on HB3.out).on hba)
   have HB4 := zh (below_tr (below_tr HBW.out HB3.out) hba)
   clear hba HSD HB3 HBW
   refine (xG w.heap.size D Rs _ a2 otherB otherB _ HS3.out hdl HB4.out.size).mono ?_
   rintro e w5 (⟨hh, rfl, hb5⟩ | ⟨hh, rfl, hs5, hf5⟩)
   ·have HN := zh (show SDesk w5 w.heap.size D Rs (zJ (al.take (k + 1))) ∧ Below w.heap.size w w5 from by
     rw [HTK1.out]
     unfold Desk.res
     rw [if_pos hh]
     exact ⟨HS3.out.on hb5, below_tr HB4.out hb5⟩)
    clear hh hb5 HS3 HB4
    go_wp2_with fail
    go_roundw
    case rel => exact ⟨k + 1, by simp, by omega, HN⟩
    case measure => simp [intOf]; omega
   ·have HN := zh (show SDesk w5 w.heap.size D Rs (zJ (al.take (k + 1))) ∧ Below w.heap.size w w5 from by
     rw [HTK1.out]
     unfold Desk.res
     rw [if_neg (by rw [hh]; decide)]
     exact ⟨hs5, hf5.below HB4.out HB4.out.size⟩)
    clear hh hs5 hf5 HS3 HB4
    go_wp2_with fail
    go_roundw
    case rel => exact ⟨k + 1, by simp, by omega, HN⟩
    case measure => simp [intOf]; omega
  ·obtain rfl : k = ts.length := by omega
   have tk : decide ((ts.length : Int) < ts.length) = false := decide_eq_false (by omega)
   have hlast : last.size ≤ 64 := by
    have h1 := HLA.out
    cases la with
    | none => rw [show last = ⟨#[]⟩ from h1]; decide
    | some a => exact h1.2.2.1
   go_wp2_with fail
   refine (read_any last _ (by omega)).mono ?_
   rintro e w3 ⟨a2, ok, rfl, ha2, _, hb3⟩
   have hok : ok = la.isSome ∧ ∀ a, la = some a → a2 = a := by
    have h1 := HLA.out
    cases la with
    | none =>
     rw [show last = ⟨#[]⟩ from h1, show readL (bl ⟨#[]⟩) = none by decide +kernel] at ha2
     cases ok with
     | true => rw [if_pos rfl] at ha2; cases ha2
     | false => exact ⟨rfl, fun a h => by cases h⟩
    | some a =>
     rw [h1.1] at ha2
     cases ok with
     | true => rw [if_pos rfl] at ha2; exact ⟨rfl, fun b h => by cases h; exact (Option.some.inj ha2).symm⟩
     | false => rw [if_neg (by decide)] at ha2; cases ha2
   obtain ⟨rfl, hl2⟩ := hok
   have HL2 := zh hl2
   have hsd := hr.out.1.on hb3
   rw [List.take_of_length_le (by omega)] at hsd
   have HSD := zh hsd
   have HBW := zh (below_tr hr.out.2 hb3)
   clear ha2 hb3 hl2 hsd hr
   unfold adv
   have hD9 := HSD.out.rows
   obtain ⟨sv9, hv9, la9, hD9, hset9, hrow9, _⟩ := hD9
   have hsl := yK hset9
   obtain ⟨av9, cv9, rfl, _⟩ := hsl
   obtain ⟨ho9, hc9, rfl, _⟩ := hrow9.form
   have x2 := cell_of_row _ D 2 _ _ _ hD9
   have x3 := cell_of_row _ D 3 _ _ _ hD9
   have x4 := cell_of_row _ D 4 _ _ _ hD9
   have z2 := frozen_of_row _ D 2 _ _ hD9
   have z3 := frozen_of_row _ D 3 _ _ hD9
   have z4 := frozen_of_row _ D 4 _ _ hD9
   have lD9 := HSD.out.lt
   go_wp2_with fail
   have r2 : (w3.setCell ⟨D, 2, none⟩ (.bool a2.six)).heap[D]? = some (.cells #[.slice av9 Rs.length cv9, .slice ho9 (zJ al).held.length hc9, .bool a2.six, .int .u32 la9.n, .bool (zJ al).last.isSome] 81 (0, 0)) := heap_setCell_same w3 D 2 _ _ _ hD9
   have n2 : ∀ x : UInt8, w3.cell? ⟨D, 2, none⟩ ≠ some (u8v x) := fun x => by rw [cell_of_row w3 D 2 _ _ _ hD9]; simp [u8v]
   have f2 : Fr [81] w.heap.size w3 (w3.setCell ⟨D, 2, none⟩ (.bool a2.six)) := Fr.set hD9 (by simp) HSD.out.lo n2
   have sz3 : w3.heap.size = (w3.setCell ⟨D, 2, none⟩ (.bool a2.six)).heap.size := by simp
   rw [sz3]
   generalize w3.setCell ⟨D, 2, none⟩ (.bool a2.six) = v1 at r2 f2 ⊢
   have r3 : (v1.setCell ⟨D, 3, none⟩ (.int .u32 a2.n)).heap[D]? = some (.cells #[.slice av9 Rs.length cv9, .slice ho9 (zJ al).held.length hc9, .bool a2.six, .int .u32 a2.n, .bool (zJ al).last.isSome] 81 (0, 0)) := heap_setCell_same v1 D 3 _ _ _ r2
   have n3 : ∀ x : UInt8, v1.cell? ⟨D, 3, none⟩ ≠ some (u8v x) := fun x => by rw [cell_of_row v1 D 3 _ _ _ r2]; simp [u8v]
   have f3 : Fr [81] w.heap.size v1 (v1.setCell ⟨D, 3, none⟩ (.int .u32 a2.n)) := Fr.set r2 (by simp) HSD.out.lo n3
   have sz4 : v1.heap.size = (v1.setCell ⟨D, 3, none⟩ (.int .u32 a2.n)).heap.size := by simp
   rw [sz4]
   generalize v1.setCell ⟨D, 3, none⟩ (.int .u32 a2.n) = v2 at r3 f3 ⊢
   have r4 : (v2.setCell ⟨D, 4, none⟩ (.bool la.isSome)).heap[D]? = some (.cells #[.slice av9 Rs.length cv9, .slice ho9 (zJ al).held.length hc9, .bool a2.six, .int .u32 a2.n, .bool la.isSome] 81 (0, 0)) := heap_setCell_same v2 D 4 _ _ _ r3
   have n4 : ∀ x : UInt8, v2.cell? ⟨D, 4, none⟩ ≠ some (u8v x) := fun x => by rw [cell_of_row v2 D 4 _ _ _ r3]; simp [u8v]
   have f4 : Fr [81] w.heap.size v2 (v2.setCell ⟨D, 4, none⟩ (.bool la.isSome)) := Fr.set r3 (by simp) HSD.out.lo n4
   have sz5 : v2.heap.size = (v2.setCell ⟨D, 4, none⟩ (.bool la.isSome)).heap.size := by simp
   rw [sz5]
   generalize v2.setCell ⟨D, 4, none⟩ (.bool la.isSome) = v3 at r4 f4 ⊢
   have HF4 := zh ((f2.trans f3).trans f4)
   have HSDL := zh (show SDesk v3 w.heap.size D Rs ⟨(zJ al).held, la⟩ from ⟨⟨_, _, a2, r4, zeG hset9 HF4.out (by decide), hrow9.fr HF4.out (by decide), HL2.out⟩, HSD.out.lo⟩)
   have HB10 := zh (HF4.out.below HBW.out HBW.out.size)
   have hbA : Below v3.heap.size v3 (v3.alloc (.cells #[] 41)) := (Below.refl _ _).alloc (Nat.le_refl _) _
   have hbB : Below v3.heap.size v3 ((v3.alloc (.cells #[] 41)).alloc (.cells #[] 9)) := hbA.alloc (by simp) _
   have HGE := zh (show GRow ((v3.alloc (.cells #[] 41)).alloc (.cells #[] 9)) w.heap.size (.slice (some ⟨v3.heap.size, 0, none⟩) 0 0) [] from RowP.on (.inr ⟨v3.heap.size, 0, rfl, yN v3 w.heap.size _ _ _ HB10.out.size⟩) ((Below.refl _ _).alloc (Nat.le_refl _) _))
   have HSE := zh (show SRow ((v3.alloc (.cells #[] 41)).alloc (.cells #[] 9)) w.heap.size (.slice (some ⟨v3.heap.size + 1, 0, none⟩) 0 0) [] from .inr ⟨v3.heap.size + 1, 0, rfl, by
    have h := yN (v3.alloc (.cells #[] 41)) w.heap.size 9 1 isStr (by have := HB10.out.size; simp; omega)
    rw [World.size_alloc] at h
    exact h⟩)
   have HAS := zh (show AS2 w D Rs ⟨(zJ al).held, la⟩ [] (.slice (some ⟨v3.heap.size, 0, none⟩) 0 0) (.slice (some ⟨v3.heap.size + 1, 0, none⟩) 0 0) ((v3.alloc (.cells #[] 41)).alloc (.cells #[] 9)) from ⟨HSDL.out.on hbB, HGE.out, HSE.out, below_tr HB10.out hbB⟩)
   have HD0 := zh (show (Desk.mk (zJ al).held la).held.length ≤ 100 from by
    show (zJ al).held.length ≤ 100
    have h1 := yC al
    omega)
   have HIDS := zh (show IdsOK ⟨(zJ al).held, la⟩ from zcJ al)
   have HDK := zh (show xC ⟨(zJ al).held, la⟩ from tk_ok al HOKA.out)
   clear HGE HSE hbA hbB HSDL HB10 HF4 sz3 sz4 sz5 r2 r3 r4 n2 n3 n4 f2 f3 f4 hD9 hset9 hrow9 x2 x3 x4 z2 z3 z4 lD9 HSD HBW HL2 HTN HTC HTK HLA HOKA
   generalize (v3.alloc (.cells #[] 41)).alloc (.cells #[] 9) = w6 at HAS ⊢
   generalize v3.heap.size + 1 = SL at HAS ⊢
   generalize v3.heap.size = GL at HAS ⊢
   generalize (⟨(zJ al).held, la⟩ : Desk) = d0 at *
   go_loopw [15, 62] (fun v i wr => ∃ k : Nat, i = .int .i64 k ∧ k ≤ os.length ∧ Hid (AS2 w D Rs (runD Rs (rdL Rs) d0 (os.take k)).2 (runD Rs (rdL Rs) d0 (os.take k)).1 v (.slice (some ⟨SL, 0, none⟩) 0 0) wr)) (fun _ i _ => os.length - (intOf i).toNat)
   case atStart => exact ⟨0, rfl, by omega, zh HAS.out⟩
   case round =>
    obtain ⟨k, rfl, hk, hr⟩ := hrel
    have HL := zh hr.out
    clear hr
    by_cases hlt : k < os.length
    ·have tk : decide ((k : Int) < os.length) = true := decide_eq_true (by omega)
     have hx : os[k]? = some os[k] := List.getElem?_eq_getElem hlt
     have hfo := HFIT.out _ (List.getElem_mem hlt)
     obtain ⟨b, off, hoo, hbl, c0, c1, c2, c3⟩ := HOPS.out.on HL.out.b k _ hx
     have HRN := zh (show runD Rs (rdL Rs) d0 (os.take (k + 1)) = ((runD Rs (rdL Rs) d0 (os.take k)).1 ++ [(stepD Rs (rdL Rs) (runD Rs (rdL Rs) d0 (os.take k)).2 os[k]).1], (stepD Rs (rdL Rs) (runD Rs (rdL Rs) d0 (os.take k)).2 os[k]).2) by
      rw [List.take_succ_eq_append_getElem hlt, zbY]
      rfl)
     have HOKD := zh (zlM HRD.out HG.out HDK.out (os.take k) (fun o ho => (HFIT.out o (List.mem_of_mem_take ho)).ok))
     have hlen := zP Rs (rdL Rs) d0 (os.take k)
     have hdl : (runD Rs (rdL Rs) d0 (os.take k)).2.held.length ≤ 1000 := by
      have h1 := hlen.2
      have h2 := HD0.out
      have h4 := List.length_take_le k os
      omega
     have hgl : (runD Rs (rdL Rs) d0 (os.take k)).1.length = k := by rw [hlen.1, List.length_take]; omega
     generalize runD Rs (rdL Rs) d0 (os.take k) = p at HL HRN hdl hgl HOKD
     obtain ⟨gs, d⟩ := p
     simp only at HL hdl hgl HRN HOKD
     generalize os[k] = o at *
     obtain ⟨kind, id, at_, asked, ad⟩ := o
     simp only at c0 c1 c2 c3
     subst hoo
     have HFO := zh hfo
     have q1 : (0 : Int) ≤ (k : Int) := by omega
     obtain ⟨gao, gcap, rfl, hgc1, hgc2, _⟩ := HL.out.g.form
     rw [hgl]
     unfold maxLen at hgc2
     clear hfo hx hlen
     go_wp2_with fail
     have hbo : Below wr.heap.size wr (wr.alloc (.cells #[.int .i64 kind, .string id, .string at_, .string asked] 45)) := (Below.refl _ _).alloc (Nat.le_refl _) _
     have HBO := zh hbo
     refine (HSTEP.out d ⟨kind, id, at_, asked, ad⟩ D _ (HL.out.d.on hbo) hdl (below_tr HL.out.b hbo).size HFO.out.ok HOKD.out).mono ?_
     rintro e w7 ⟨rfl, hs7, hf7⟩
     generalize (stepD Rs (rdL Rs) d ⟨kind, id, at_, asked, ad⟩) = sr at hs7 HRN ⊢
     obtain ⟨⟨ga, gg, gk⟩, d'⟩ := sr
     simp only at hs7 HRN
     have HL7 := zh (show AS2 w D Rs d' gs (.slice gao gs.length gcap) (.slice (some ⟨SL, 0, none⟩) 0 0) w7 from
      ⟨hs7, RowP.fr (RowP.on HL.out.g hbo) hf7 (by decide), RowP.fr (RowP.on HL.out.l hbo) hf7 (by decide), hf7.below (below_tr HL.out.b hbo) (below_tr HL.out.b hbo).size⟩)
     have HNEW := zh (show ∀ (j : Nat) (u : Value), (Giv.vals ⟨ga, gg, gk⟩)[j]? = some u → (w7.alloc (.cells #[.string ⟨ga.toArray⟩, .string ⟨gg.toArray⟩, .bool gk] 41)).cell? ((⟨w7.heap.size, 0, none⟩ : Addr).add j) = some u from fun j u hu => by
      rw [Addr.add_lit, Nat.zero_add, cell_of_row _ _ j _ _ _ (heap_alloc_new w7 _), ← hu, List.getElem?_toArray]
      rfl)
     have hb8 : Below w7.heap.size w7 (w7.alloc (.cells #[.string ⟨ga.toArray⟩, .string ⟨gg.toArray⟩, .bool gk] 41)) := (Below.refl _ _).alloc (Nat.le_refl _) _
     have HB8 := zh hb8
     have HG8 := zh (show RowP (w7.alloc (.cells #[.string ⟨ga.toArray⟩, .string ⟨gg.toArray⟩, .bool gk] 41)) w.heap.size 41 3 isGv (.slice gao k gcap) k (flatG gs) from by
      have h := RowP.on HL7.out.g hb8
      rw [hgl] at h
      exact h)
     clear hs7 hf7 hb8 hbo
     unfold Giv.val
     go_wp2_with (focus (at_builtin; go_must (refine zN _ rfl _ _ 35 rfl w.heap.size 41 i0g (.agg #[.string ⟨#[]⟩, .string ⟨#[]⟩, .bool false]) 3 40 isGv Tryz.underlying35 HI0g.out HZ0g.out HZ1g.out HZ2g.out (by rfl) (by decide) zeW (.slice gao k gcap) k (flatG gs) rfl HG8.out ⟨w7.heap.size, 0, none⟩ 1 1 (Giv.vals ⟨ga, gg, gk⟩) rfl rfl HNEW.out (fun u hu => by simp only [Giv.vals, List.mem_cons, List.not_mem_nil, or_false] at hu; rcases hu with rfl | rfl | rfl <;> rfl) (fun u hu => by simp only [Giv.vals, List.mem_cons, List.not_mem_nil, or_false] at hu; rcases hu with rfl | rfl | rfl <;> first | exact .inl ⟨_, rfl⟩ | exact .inr ⟨_, rfl⟩) (by decide) (by unfold maxLen; omega) (by omega) (Nat.le_trans HL7.out.b.size HB8.out.size) ?_)))
     intro g' cap' w9 hown hg hgg
     have HNX := zh (show GRow w9 w.heap.size (.slice (some ⟨g', 0, none⟩) (k + 1) cap') (gs ++ [⟨ga, gg, gk⟩]) ∧ Fr [41] w.heap.size (w7.alloc (.cells #[.string ⟨ga.toArray⟩, .string ⟨gg.toArray⟩, .bool gk] 41)) w9 from by
      have h := GRow.next (x := ⟨ga, gg, gk⟩) (show GRow _ w.heap.size (.slice gao k gcap) gs by unfold GRow; rw [hgl]; exact HG8.out) (by rw [hgl]; exact hown) hg
      rw [hgl] at h
      exact h)
     clear hown hg hgg
     go_wp2_with fail
     go_roundw
     case rel => exact ⟨k + 1, by simp, by omega, zh (by
      rw [HRN.out]
      have h6 := (Fr.of_below (ts := [41]) (base := w.heap.size) HB8.out).trans HNX.out.2
      exact ⟨HL7.out.d.fr h6 (by decide) (by decide) (by decide), HNX.out.1, RowP.fr HL7.out.l h6 (by decide), h6.below HL7.out.b HL7.out.b.size⟩)⟩
     case measure => simp [intOf]; omega
    ·obtain rfl : k = os.length := by omega
     have tk : decide ((os.length : Int) < os.length) = false := decide_eq_false (by omega)
     have hgl := (zP Rs (rdL Rs) d0 os).1
     have hdl2 := (zP Rs (rdL Rs) d0 os).2
     have hdl : (runD Rs (rdL Rs) d0 os).2.held.length ≤ 1000 := by
      have h2 := HD0.out
      omega
     rw [List.take_length] at HL
     have HOKD := zh (zlM HRD.out HG.out HDK.out os (fun o ho => (HFIT.out o ho).ok))
     obtain ⟨p, hp⟩ : ∃ p, p = runD Rs (rdL Rs) d0 os := ⟨_, rfl⟩
     rw [← hp] at HL hdl hgl HOKD ⊢
     have HRUN := zh hp
     clear hp
     obtain ⟨gs, d⟩ := p
     simp only at HL hdl hgl HOKD ⊢
     have HGL := zh hgl
     clear hgl hdl2
     obtain ⟨sv, hv, la2, hDr, _, hrow, _⟩ := HL.out.d.rows
     obtain ⟨ho, hcap, rfl, hh1, hh2, hhn, hhs⟩ := hrow.form
     obtain ⟨gao, gcap, rfl, hgc1, hgc2, _⟩ := HL.out.g.form
     have HHN := zh hhn
     have HHS := zh hhs
     have HDR := zh hDr
     have cH := cell_of_row wr D 1 _ _ _ hDr
     have lD := HL.out.d.lt
     unfold maxLen at hh2
     clear hrow hhn hhs hDr
     go_wp2_with fail
     obtain ⟨wz, hwz⟩ : ∃ wz, wz = wr := ⟨_, rfl⟩
     subst hwz
     have HLZ := zh HL.out
     have HSL0 := zh HL.out.l
     have HID2 := zh (show ∀ e ∈ d.held, e.id.size ≤ 64 ∧ e.at_.size ≤ 64 from by
      have h := zcX (rd := rdL Rs) (Rs := Rs) HIDS.out HFIT.out
      rw [← HRUN.out] at h
      exact h)
     clear HL cH
     go_loopw [16, 78] (fun v i wx => ∃ k : Nat, i = .int .i64 k ∧ k ≤ d.held.length ∧ Hid (Fr [9] w.heap.size wz wx ∧ ∃ ss, SRow wx w.heap.size v ss ∧ (ss.map bl).Pairwise (· ≤ ·) ∧ (ss.map bl).Perm ((d.held.take k).map leftB))) (fun _ i _ => d.held.length - (intOf i).toNat)
     case atStart => exact ⟨0, rfl, by omega, zh ⟨Fr.refl _ _ _, [], HSL0.out, List.Pairwise.nil, List.Perm.refl _⟩⟩
     case round =>
      obtain ⟨k, rfl, hk, hr⟩ := hrel
      obtain ⟨hFx, ss, hsr, hso, hpe⟩ := hr.out
      have HFX := zh hFx
      have HSO2 := zh hso
      have HPE := zh hpe
      have hlk : ss.length = k := by
       have h1 := hpe.length_eq
       rw [List.length_map, List.length_map, List.length_take] at h1
       omega
      obtain ⟨lao, lcap, rfl, hlc1, hlc2⟩ := hsr.form
      have HSR := zh hsr
      rw [hlk] at hlc1 HSR ⊢
      clear hr hFx hsr hso hpe
      by_cases hlt : k < d.held.length
      ·have tk : decide ((k : Int) < d.held.length) = true := decide_eq_true (by omega)
       obtain ⟨ad, hao⟩ : ∃ ad, ho = some ad := by
        cases ho with
        | none => have := (HHN.out rfl).1; omega
        | some ad => exact ⟨ad, rfl⟩
       obtain ⟨g2, hg2, hown2⟩ := HHS.out ad hao
       subst hg2
       subst hao
       have hx : d.held[k]? = some d.held[k] := List.getElem?_eq_getElem hlt
       have hxo := HOKD.out _ (List.getElem_mem hlt)
       have hids := HID2.out _ (List.getElem_mem hlt)
       have hcell : ∀ c, c < 4 → wr.cell? ⟨g2, k * 4 + c, none⟩ = d.held[k].vals[c]? := fun c hc => by
        have h2 := hown2.fr HFX.out (by decide)
        rw [h2.cell (k * 4 + c) (by omega), zaB d.held k c _ hx hc]
       have HTKS := zh (show ((d.held.take (k + 1)).map leftB) = ((d.held.take k).map leftB) ++ [leftB d.held[k]] by
        rw [List.take_succ_eq_append_getElem hlt, List.map_append]
        rfl)
       generalize d.held[k] = x at *
       obtain ⟨ea, eid, eat⟩ := x
       have hxo : ea.ok := hxo
       have c0 : wr.cell? ⟨g2, k * 4, none⟩ = some (.bool ea.six) := hcell 0 (by decide)
       have c1 : wr.cell? ⟨g2, k * 4 + 1, none⟩ = some (.int .u32 ea.n) := hcell 1 (by decide)
       have c2 : wr.cell? ⟨g2, k * 4 + 2, none⟩ = some (.string eid) := hcell 2 (by decide)
       have c3 : wr.cell? ⟨g2, k * 4 + 3, none⟩ = some (.string eat) := hcell 3 (by decide)
       have z1 : eid.size ≤ 64 := hids.1
       have z2 : eat.size ≤ 64 := hids.2
       have q1 : (0 : Int) ≤ (k : Int) := by omega
       have HT := zh (fun (W : World) => (text_any ea W (by unfold Ad.ok at hxo; split at hxo <;> omega)).mono (fun e w' h => zX h))
       have HTX := zh (zY hxo)
       clear hcell hx hxo hids hown2
       go_wp2_with fail
       have hhn := heap_alloc_new wr (.cells #[.bool ea.six, .int .u32 ea.n, .string eid, .string eat] 87)
       have hbh : Below wr.heap.size wr (wr.alloc (.cells #[.bool ea.six, .int .u32 ea.n, .string eid, .string eat] 87)) := (Below.refl _ _).alloc (Nat.le_refl _) _
       have HHW := zh hhn
       have HFH := zh (HFX.out.trans (Fr.of_below hbh))
       have HSRH := zh (HSR.out.on hbh)
       have hlow : w.heap.size ≤ wr.heap.size := (HFX.out.below HLZ.out.b HLZ.out.b.size).size
       generalize wr.alloc (.cells #[.bool ea.six, .int .u32 ea.n, .string eid, .string eat] 87) = wh at HHW HFH HSRH ⊢
       generalize wr.heap.size = HB at HHW hlow ⊢
       have d0' := cell_of_row wh HB 0 _ _ _ HHW.out
       have d1' := cell_of_row wh HB 1 _ _ _ HHW.out
       have d2' := cell_of_row wh HB 2 _ _ _ HHW.out
       have d3' := cell_of_row wh HB 3 _ _ _ HHW.out
       obtain ⟨tx, htx⟩ : ∃ tx : ByteArray, tx = ⟨ea.text.toArray⟩ := ⟨_, rfl⟩
       have HTXE := zh (show bl tx = ea.text by rw [htx]; simp [bl])
       have z3 : tx.size ≤ 15 := by rw [← bl_length, HTXE.out]; exact HTX.out
       rw [← htx] at HT
       unfold adv at HT
       have n1 : ¬ 9223372036854775807 < tx.size + 1 := by omega
       have n2 : ¬ 9223372036854775807 < tx.size + 1 + eid.size := by omega
       have n3 : ¬ 9223372036854775807 < tx.size + 1 + eid.size + 1 := by omega
       have n4 : ¬ 9223372036854775807 < tx.size + 1 + eid.size + 1 + eat.size := by omega
       clear c0 c1 c2 c3 hhn hbh htx
       refine wp_region_held_drew (S := (fun w' => w'.cell? ⟨HB, 0, none⟩ = some (.bool ea.six) ∧ w'.cell? ⟨HB, 1, none⟩ = some (.int .u32 ea.n) ∧ w'.cell? ⟨HB, 2, none⟩ = some (.string eid) ∧ w'.cell? ⟨HB, 3, none⟩ = some (.string eat))) (by kernel_rfl) ?_ (fun hHeld => ?_)
       ·go_keep
       refine zA 0 82 ?v0x1 (by rfl) (by kernel_rfl) (by kernel_rfl) (by kernel_rfl) (by kernel_rfl) (fun _ _ _ _ h => h) (by kernel_rfl) ?hy0x1 (by assumption) ?nx0x1
       case hy0x1 =>
        intro w' hSw
        go_simp
        try with_reducible rfl
       simp only [sA, sB, sC]
       refine zA 1 83 ?v1x2 (by rfl) (by kernel_rfl) (by kernel_rfl) (by kernel_rfl) (by kernel_rfl) (fun _ _ _ _ h => h) (by kernel_rfl) ?hy1x2 (by assumption) ?nx1x2
       case hy1x2 =>
        intro w' hSw
        go_simp
        try with_reducible rfl
       simp only [sA, sB, sC]
       refine zA 2 84 ?v2x3 (by rfl) (by kernel_rfl) (by kernel_rfl) (by kernel_rfl) (by kernel_rfl) (fun _ _ _ _ h => h) (by kernel_rfl) ?hy2x3 (by assumption) ?nx2x3
       case hy2x3 =>
        intro w' hSw
        go_simp
        try with_reducible rfl
       simp only [sA, sB, sC]
       refine zA 5 87 ?v5x4 (by rfl) (by kernel_rfl) (by kernel_rfl) (by kernel_rfl) (by kernel_rfl) (fun _ _ _ _ h => h) (by kernel_rfl) ?hy5x4 (by assumption) ?nx5x4
       case hy5x4 =>
        intro w' hSw
        go_simp
        try with_reducible rfl
       simp only [sA, sB, sC]
       refine zA 6 88 ?v6x5 (by rfl) (by kernel_rfl) (by kernel_rfl) (by kernel_rfl) (by kernel_rfl) (fun _ _ _ _ h => h) (by kernel_rfl) ?hy6x5 (by assumption) ?nx6x5
       case hy6x5 =>
        intro w' hSw
        go_simp
        try with_reducible rfl
       simp only [sA, sB, sC]
       refine zA 9 91 ?v9x6 (by rfl) (by kernel_rfl) (by kernel_rfl) (by kernel_rfl) (by kernel_rfl) (fun _ _ _ _ h => h) (by kernel_rfl) ?hy9x6 (by assumption) ?nx9x6
       case hy9x6 =>
        intro w' hSw
        go_simp
        try with_reducible rfl
       simp only [sA, sB, sC]
       refine zA 10 92 ?v10x7 (by rfl) (by kernel_rfl) (by kernel_rfl) (by kernel_rfl) (by kernel_rfl) (fun _ _ _ _ h => h) (by kernel_rfl) ?hy10x7 (by assumption) ?nx10x7
       case hy10x7 =>
        intro w' hSw
        go_simp
        try with_reducible rfl
       simp only [sA, sB, sC]
       refine wpAnyH_ready (rs := [3]) (by kernel_rfl) (by simp) (AllReadyH.cons (o := _) rfl (fun K hK => ?_) AllReadyH.nil)
       go_simp
       go_at_call 27
       refine (HT.out _).mono ?_
       rintro e w2 ⟨rfl, hb2⟩
       have hbw := below_tr (below_drewN (Below.refl wh.heap.size wh) 1) hb2
       have HBW2 := zh hbw
       have hr2 := row_on hbw HHW.out
       have HHW2 := zh hr2
       have f0 := cell_of_row w2 HB 0 _ _ _ hr2
       have f1 := cell_of_row w2 HB 1 _ _ _ hr2
       have f2 := cell_of_row w2 HB 2 _ _ _ hr2
       have f3 := cell_of_row w2 HB 3 _ _ _ hr2
       clear hb2 hbw hr2 d0' d1' d2' d3'
       refine hK.out _ _ ?_ (fun hHeld => ?_)
       ·exact ⟨f0, f1, f2, f3⟩
       clear hK K
       try simp only [Act.put, sA, sB, sC]
       refine zA 4 86 ?v4x8 (by rfl) (by kernel_rfl) (by kernel_rfl) (by kernel_rfl) (by kernel_rfl) (fun _ _ _ _ h => h) (by kernel_rfl) ?hy4x8 (by assumption) ?nx4x8
       case hy4x8 =>
        intro w' hSw
        go_simp
        try with_reducible rfl
       simp only [sA, sB, sC]
       refine zA 7 89 ?v7x9 (by rfl) (by kernel_rfl) (by kernel_rfl) (by kernel_rfl) (by kernel_rfl) (fun _ _ _ _ h => h) (by kernel_rfl) ?hy7x9 (by assumption) ?nx7x9
       case hy7x9 =>
        intro w' hSw
        go_simp
        try with_reducible rfl
       simp only [sA, sB, sC]
       refine zA 8 90 ?v8x10 (by rfl) (by kernel_rfl) (by kernel_rfl) (by kernel_rfl) (by kernel_rfl) (fun _ _ _ _ h => h) (by kernel_rfl) ?hy8x10 (by assumption) ?nx8x10
       case hy8x10 =>
        intro w' hSw
        go_simp
        try with_reducible rfl
       simp only [sA, sB, sC]
       refine zA 11 93 ?v11x11 (by rfl) (by kernel_rfl) (by kernel_rfl) (by kernel_rfl) (by kernel_rfl) (fun _ _ _ _ h => h) (by kernel_rfl) ?hy11x11 (by assumption) ?nx11x11
       case hy11x11 =>
        intro w' hSw
        go_simp
        try with_reducible rfl
       simp only [sA, sB, sC]
       obtain ⟨s, hs⟩ : ∃ s, s = tx ++ ⟨#[32]⟩ ++ eid ++ ⟨#[32]⟩ ++ eat := ⟨_, rfl⟩
       rw [← hs]
       have HLB := zh (show bl s = leftB ⟨ea, eid, eat⟩ by
        rw [hs]
        simp only [bl_add, HTXE.out, leftB]
        simp [bl])
       clear hs n1 n2 n3 n4 z1 z2 z3
       refine wpAnyH_ready (rs := [12]) (by kernel_rfl) (by simp) (AllReadyH.cons (o := _) rfl (fun K hK => ?_) AllReadyH.nil)
       go_simp
       refine hK.out _ _ ?_ (fun hHeld => ?_)
       ·go_keep
       clear hK K
       try simp only [Act.put, sA, sB, sC]
       have HNEW := zh (show ∀ (j : Nat) (u : Value), ([Value.string s] : List Value)[j]? = some u → (w2.alloc (.cells #[.string s] 9)).cell? ((⟨w2.heap.size, 0, none⟩ : Addr).add j) = some u from fun j u hu => by
        rw [Addr.add_lit, Nat.zero_add, cell_of_row _ _ j _ _ _ (heap_alloc_new w2 _), ← hu, List.getElem?_toArray])
       have hbn : Below w2.heap.size w2 (w2.alloc (.cells #[.string s] 9)) := (Below.refl _ _).alloc (Nat.le_refl _) _
       have HFN := zh ((HFH.out.trans (Fr.of_below HBW2.out)).trans (Fr.of_below hbn))
       have HSRN := zh (show RowP (w2.alloc (.cells #[.string s] 9)) w.heap.size 9 1 isStr (.slice lao k lcap) k (ss.map Value.string) from by
        have h := (HSRH.out.on HBW2.out).on hbn
        unfold SRow at h
        rw [hlk] at h
        exact h)
       have HHW3 := zh (row_on hbn HHW2.out)
       clear hbn f0 f1 f2 f3
       refine wpAnyH_ready (rs := [13]) (by kernel_rfl) (by simp) (AllReadyH.cons (o := _) rfl (fun K hK => ?_) AllReadyH.nil)
       refine zW _ (by rfl) _ _ 29 (by rfl) w.heap.size 9 j0 (.string ⟨#[]⟩) 1 16 isStr Tryz.underlying29 HJ0.out HY0.out HY1.out HY2.out (by rfl) (by decide) zbC (.slice lao k lcap) k (ss.map Value.string) (by rfl) HSRN.out ⟨w2.heap.size, 0, none⟩ 1 1 [.string s] (by rfl) (by rfl) HNEW.out (fun u hu => by simp only [List.mem_singleton] at hu; subst hu; rfl) (fun u hu => by simp only [List.mem_singleton] at hu; subst hu; exact ⟨_, rfl⟩) (by decide) (by unfold maxLen; omega) (by omega) (HFN.out.below HLZ.out.b HLZ.out.b.size).size ?_
       intro g' cap' w3' hown hg hgg
       have HOW3 := zh hown
       have HFR3 := zh (show Fr [9] w.heap.size wz w3' from HFN.out.trans (RowP.fr_grown HSRN.out zcH (by simp) hg))
       have hr3 := (RowP.fr_grown HSRN.out zcH (by simp) hg).rows _ _ _ _ HHW3.out (show 87 ∉ [9] by decide)
       have e0 := cell_of_row w3' HB 0 _ _ _ hr3
       have e1' := cell_of_row w3' HB 1 _ _ _ hr3
       have e2' := cell_of_row w3' HB 2 _ _ _ hr3
       have e3' := cell_of_row w3' HB 3 _ _ _ hr3
       clear hown hg hgg hr3
       refine hK.out _ _ ?_ (fun hHeld => ?_)
       ·exact ⟨e0, e1', e2', e3'⟩
       clear hK K
       try simp only [Act.put, List.setIfInBounds_toArray]
       refine zA 14 16 ?v14x12 (by rfl) (by kernel_rfl) (by kernel_rfl) (by kernel_rfl) (by kernel_rfl) (fun _ _ _ _ h => h) (by kernel_rfl) ?hy14x12 (by assumption) ?nx14x12
       case hy14x12 =>
        intro w' hSw
        go_simp
        try with_reducible rfl
       simp only [sA, sB, sC]
       refine wpAnyH_done (by kernel_rfl) ?_ _
       clear hHeld e0 e1' e2' e3'
       go_wp2_with fail
       clear HSRN HNEW HFN HHW3 HHW2 HBW2 HSRH HFH HHW HFX HT HTX HTXE
       go_loopw [21] (fun i wx => ∃ m : Nat, i = .int .i64 m ∧ m ≤ k ∧ Hid (Fr [9] w.heap.size wz wx ∧ OwnP wx w.heap.size 9 1 isStr g' (k + 1) cap' ((ss.take m ++ s :: ss.drop m).map Value.string) ∧ ∀ y ∈ ss.drop m, bl s ≤ bl y)) (fun i _ => (intOf i).toNat)
       case atStart => exact ⟨k, by simp, Nat.le_refl _, zh ⟨HFR3.out, by
        have h := HOW3.out
        rw [List.take_of_length_le (by omega), List.drop_of_length_le (by omega)]
        simpa using h, fun y hy => by rw [List.drop_of_length_le (by omega)] at hy; cases hy⟩⟩
       case round =>
        obtain ⟨m, rfl, hm, hr⟩ := hrel
        cases m with
        | zero =>
         have HSF := zh hr.out
         clear hr
         go_wp2_with fail
         go_quiet (fail)
         go_wp2_with fail
         have HDN := zh (below_drewN (Below.refl wr.heap.size wr) nq)
         go_roundw
         case rel =>
          exact ⟨k + 1, by simp, by omega, zh ⟨HSF.out.1.trans (Fr.of_below HDN.out), _, zcM hlk (HSF.out.2.1.on HDN.out), by
           rw [HTKS.out]
           exact zjH HSO2.out HPE.out HLB.out (Nat.zero_le _) HSF.out.2.2 (fun y hy => by cases hy)⟩⟩
         case measure => simp [intOf]; omega
        | succ n =>
         have hn1 : n < ss.length := by omega
         have hlen1 : (ss.take (n + 1) ++ s :: ss.drop (n + 1)).length = k + 1 := by
          rw [List.length_append, List.length_take, List.length_cons, List.length_drop]
          omega
         have hat : (ss.take (n + 1) ++ s :: ss.drop (n + 1))[n + 1]? = some s := by
          rw [List.getElem?_append_right (by rw [List.length_take]; omega), List.length_take, Nat.min_eq_left (by omega), Nat.sub_self]
          rfl
         have hbe : (ss.take (n + 1) ++ s :: ss.drop (n + 1))[n]? = some ss[n] := by
          rw [List.getElem?_append_left (by rw [List.length_take]; omega), List.getElem?_take_of_lt (by omega), List.getElem?_eq_getElem hn1]
         have b1 : wr.cell? ⟨g', n + 1, none⟩ = some (.string s) := by rw [hr.out.2.1.cell (n + 1) (by omega), List.getElem?_map, hat]; rfl
         have b0 : wr.cell? ⟨g', n, none⟩ = some (.string ss[n]) := by rw [hr.out.2.1.cell n (by omega), List.getElem?_map, hbe]; rfl
         have HEQ : Op.bytesLess s.toList ss[n].toList = decide (bl s < bl ss[n]) := by rw [bytesLess_eq, ByteArray.toList_eq, ByteArray.toList_eq]; rfl
         by_cases hlt2 : bl s < bl ss[n]
         ·have tb : Op.bytesLess s.toList ss[n].toList = true := by rw [HEQ, decide_eq_true hlt2]
          have HSF := zh hr.out
          have HLT2 := zh hlt2
          have HN1 := zh hn1
          clear HEQ hlt2 hr hat hbe hlen1
          go_wp2_with fail
          go_quiet (fail)
          go_wp2_with fail
          have HDN := below_drewN (Below.refl wr.heap.size wr) nq
          have HSQ := zh (show Fr [9] w.heap.size wz (wr.drewN nq) ∧ OwnP (wr.drewN nq) w.heap.size 9 1 isStr g' (k + 1) cap' ((ss.take (n + 1) ++ s :: ss.drop (n + 1)).map Value.string) ∧ ∀ y ∈ ss.drop (n + 1), bl s ≤ bl y from ⟨HSF.out.1.trans (Fr.of_below HDN), HSF.out.2.1.on HDN, HSF.out.2.2⟩)
          have x1 : (wr.drewN nq).cell? ⟨g', n + 1, none⟩ = some (.string s) := (HDN.cell HSF.out.2.1.lt).trans b1
          have x0 : (wr.drewN nq).cell? ⟨g', n, none⟩ = some (.string ss[n]) := (HDN.cell HSF.out.2.1.lt).trans b0
          clear HDN HSF b0 b1
          generalize wr.drewN nq = wq at HSQ x1 x0 ⊢
          have y1 := HSQ.out.2.1.frozen (n + 1)
          have y0 := HSQ.out.2.1.frozen n
          have nb : n ≠ n + 1 := by omega
          have nb' : n + 1 ≠ n := by omega
          generalize hT : ss[n] = t at *
          go_region
          subst hT
          have o1 := HSQ.out.2.1.set1 (n + 1) (.string ss[n]) (by omega) ⟨_, rfl⟩
          have k1 := zbQ HSQ.out.2.1 zcH (show 9 ∈ [9] by simp) (n + 1) (.string ss[n])
          have o2 := o1.set1 n (.string s) (by omega) ⟨_, rfl⟩
          have k2 := zbQ o1 zcH (show 9 ∈ [9] by simp) n (.string s)
          have o2 : OwnP ((wq.setCell ⟨g', n + 1, none⟩ (.string ss[n])).setCell ⟨g', n, none⟩ (.string s)) w.heap.size 9 1 isStr g' (k + 1) cap' ((ss.take n ++ s :: ss.drop n).map Value.string) := (zlD ss s n HN1.out) ▸ o2
          have kf := (HSQ.out.1.trans k1).trans k2
          clear o1 k1 k2 x1 x0 y1 y0
          generalize (wq.setCell ⟨g', n + 1, none⟩ (.string ss[n])).setCell ⟨g', n, none⟩ (.string s) = wv at o2 kf ⊢
          have hdw := below_drewN (Below.refl wv.heap.size wv) 1
          have HEND := zh (show Fr [9] w.heap.size wz wv.drew ∧ OwnP wv.drew w.heap.size 9 1 isStr g' (k + 1) cap' ((ss.take n ++ s :: ss.drop n).map Value.string) ∧ ∀ y ∈ ss.drop n, bl s ≤ bl y from
           ⟨kf.trans (Fr.of_below hdw), o2.on hdw, fun y hy => by
            rw [List.drop_eq_getElem_cons HN1.out] at hy
            rcases List.mem_cons.1 hy with rfl | hy
            ·exact List.le_of_lt HLT2.out
            ·exact HSQ.out.2.2 y hy⟩)
          clear o2 kf hdw
          generalize wv.drew = we at HEND ⊢
          go_wp2_with fail
          go_roundw
          case rel => exact ⟨n, by simp, by omega, HEND⟩
          case measure => simp [intOf]
         ·have tb : Op.bytesLess s.toList ss[n].toList = false := by rw [HEQ, decide_eq_false hlt2]
          have HSF := zh hr.out
          have HLT2 := zh hlt2
          have HN1 := zh hn1
          clear HEQ hlt2 hr hat hbe hlen1
          go_wp2_with fail
          go_quiet (fail)
          go_wp2_with fail
          have HDN := zh (below_drewN (Below.refl wr.heap.size wr) nq)
          go_roundw
          case rel =>
           exact ⟨k + 1, by simp, by omega, zh ⟨HSF.out.1.trans (Fr.of_below HDN.out), _, zcM hlk (HSF.out.2.1.on HDN.out), by
            rw [HTKS.out]
            exact zjH HSO2.out HPE.out HLB.out (by omega) HSF.out.2.2 (zmK HSO2.out HN1.out HLT2.out)⟩⟩
          case measure => simp [intOf]; omega
      ·obtain rfl : k = d.held.length := by omega
       have tk : decide ((d.held.length : Int) < d.held.length) = false := decide_eq_false (by omega)
       rw [List.take_length] at HPE
       have HSU := zh (zfC HPE.out HSO2.out)
       go_wp2_with fail
       refine bodyPost_ret (v := .tuple #[.slice gao gs.length gcap, .slice lao d.held.length lcap]) (by simp [results, Tryz.results17, go_sem]) rfl ?_
       rw [← HRUN.out]
       refine ⟨gao, gcap, lao, lcap, by rw [yA, List.length_map], HFX.out.below HLZ.out.b HLZ.out.b.size, fun j x hj => ?_, fun j x hj => ?_⟩
       ·have hj : gs[j]? = some x := hj
        rcases RowP.fr HLZ.out.g HFX.out (by decide) with ⟨_, q2, _⟩ | ⟨g1, c1, hv, ho⟩
        ·have := (List.getElem?_eq_some_iff.1 hj).1
         omega
        ·have hg1 : gao = some ⟨g1, 0, none⟩ := (Value.slice.inj hv).1
         have hjl := (List.getElem?_eq_some_iff.1 hj).1
         have hcell : ∀ c, c < 3 → wr.cell? ⟨g1, j * 3 + c, none⟩ = x.vals[c]? := fun c hc => by
          rw [ho.cell (j * 3 + c) (by omega), zcW gs j c x hj hc]
         exact ⟨g1, hg1, ho.lt, hcell 0 (by decide), hcell 1 (by decide), hcell 2 (by decide)⟩
       ·have hj : (sortL (d.held.map leftB))[j]? = some x := hj
        rw [← HSU.out, List.getElem?_map] at hj
        obtain ⟨y, hy, rfl⟩ := Option.map_eq_some_iff.1 hj
        have hjl := (List.getElem?_eq_some_iff.1 hy).1
        obtain ⟨g1, c1, hv, _, hgl, _, _, hc⟩ := HSR.out.cells (by omega)
        have hg1 : lao = some ⟨g1, 0, none⟩ := (Value.slice.inj hv).1
        have h1 := hc j y hy
        rw [Nat.zero_add] at h1
        exact ⟨g1, hg1, hgl, by rw [h1]; simp [bl]⟩
end Go.Proofs.YtnehofekgnbelaaGreatDoor

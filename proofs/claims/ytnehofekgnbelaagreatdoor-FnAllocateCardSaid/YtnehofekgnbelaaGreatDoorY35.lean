/-
  Texts put together: SetS, SetI
-/
import Derived.Test.YtnehofekgnbelaaGreatDoorY33
import Derived.Test.YtnehofekgnbelaaGreatDoorY27
import Derived.Test.YtnehofekgnbelaaGreatDoorM11
import Derived.Test.YtnehofekgnbelaaGreatDoorY28
import Derived.Test.YtnehofekgnbelaaGreatDoorY34
import Derived.Test.YtnehofekgnbelaaGreatDoorM1
import Derived.Test.YtnehofekgnbelaaGreatDoorY2
namespace Go.Proofs.YtnehofekgnbelaaGreatDoor
open Go.RowKit
set_option linter.unusedVariables false
set_option maxRecDepth 100000
set_option maxHeartbeats 400000
set_option maxHeartbeats 2000000
instance kinMet (w : World) : Nonempty (Kin w) := ⟨⟨w, Below.refl w.heap.size w⟩⟩
theorem zcF (n s e n' s' e' : Ad) : meetB n s e n' s' e' = meetB n' s' e' n s e := by
 unfold meetB
 rw [Bool.eq_iff_iff]
 simp only [Bool.and_eq_true, decide_eq_true_eq, beq_iff_eq]
 constructor <;> (rintro ⟨⟨h1, h2⟩, h3⟩; exact ⟨⟨h1.symm, h3⟩, h2⟩)
set_option maxHeartbeats 1000000
def spanL (R : RIn) : List Value := [.bool R.a.six, .int .u32 R.a.n, .int .i64 R.free, .bool (zB R).six, .int .u32 (zB R).n, .bool (zC R).six, .int .u32 (zC R).n, .bool (zE R).six, .int .u32 (zE R).n]
def flatS (Rs : List RIn) : List Value := Rs.flatMap spanL
theorem yZ (Rs : List RIn) (j c : Nat) (Q : RIn) (h : Rs[j]? = some Q) (hc : c < 9) : (flatS Rs)[j * 9 + c]? = (spanL Q)[c]? := by
 induction Rs generalizing j with
 | nil => cases h
 | cons R Rs ih =>
  have e : flatS (R :: Rs) = spanL R ++ flatS Rs := rfl
  have hl : (spanL R).length = 9 := rfl
  cases j with
  | zero =>
   obtain rfl : R = Q := by simpa using h
   rw [e, List.getElem?_append_left (by rw [hl]; omega), Nat.zero_mul, Nat.zero_add]
  | succ j =>
   rw [e, List.getElem?_append_right (by rw [hl]; omega), hl, show (j + 1) * 9 + c - 9 = j * 9 + c by omega]
   exact ih j h
def beside (R Q : RIn) : Bool := (Q.a.six == R.a.six) && !meetB R.a (zB R) (zC R) Q.a (zB Q) (zC Q)
def setB : List RIn → List RIn → Bool
 | done, [] => !done.isEmpty
 | done, R :: rest => okR R && done.all (beside R) && setB (done ++ [R]) rest
theorem zbM {w w' : World} {base : Nat} {e : TypeId} {size : Nat} {v : Value} {n : Nat} {xs : List Value} (h : w.ownsRow base e size v n xs) (hb : Below w.heap.size w w') : w'.ownsRow base e size v n xs := by
 refine ⟨h.1, ?_⟩
 rcases h.2 with hn | ⟨g, cap, cur, hv, hbg, hg, rest⟩
 ·exact .inl hn
 ·exact .inr ⟨g, cap, cur, hv, hbg, row_on hb hg, rest⟩
theorem yK {w : World} {base : Nat} {e : TypeId} {size : Nat} {v : Value} {n : Nat} {xs : List Value} (h : w.ownsRow base e size v n xs) : ∃ ao cap, v = .slice ao n cap ∧ (0 < n → ∃ g, ao = some ⟨g, 0, none⟩) := by
 rcases h.2 with ⟨rfl, rfl⟩ | ⟨g, cap, cur, hv, _⟩
 ·exact ⟨none, 0, rfl, fun h => absurd h (by omega)⟩
 ·exact ⟨_, cap, hv, fun _ => ⟨g, rfl⟩⟩
theorem zjT : (Tryz.prog.info? 63).map (fun i => (i.zero, i.size, i.bytes)) = some (some (.agg #[.bool false, .int .u32 0, .int .i64 0, .bool false, .int .u32 0, .bool false, .int .u32 0, .bool false, .int .u32 0]), 9, 40) := by kernel_rfl
theorem zjU (R : RIn) : ∀ u ∈ spanL R, u.oneCell' = true := by
 intro u hu
 simp only [spanL, List.mem_cons, List.not_mem_nil, or_false] at hu
 rcases hu with rfl | rfl | rfl | rfl | rfl | rfl | rfl | rfl | rfl <;> rfl
theorem zgD (w : World) (R : RIn) : ∀ j u, (spanL R)[j]? = some u → (w.alloc (.cells #[.bool R.a.six, .int .u32 R.a.n, .int .i64 R.free, .bool (zB R).six, .int .u32 (zB R).n, .bool (zC R).six, .int .u32 (zC R).n, .bool (zE R).six, .int .u32 (zE R).n] 63)).cell? ((⟨w.heap.size, 0, none⟩ : Addr).add j) = some u := by
 intro j u hu
 have h := cell_of_row _ w.heap.size j _ _ _ (heap_alloc_new w (.cells #[.bool R.a.six, .int .u32 R.a.n, .int .i64 R.free, .bool (zB R).six, .int .u32 (zB R).n, .bool (zC R).six, .int .u32 (zC R).n, .bool (zE R).six, .int .u32 (zE R).n] 63))
 rw [Addr.add_lit, Nat.zero_add, h, ← hu, List.getElem?_toArray]
 rfl
def TxAll (xs : List Tx) (Rs : List RIn) : Prop := Rs.length = xs.length ∧ ∀ (j : Nat) (x : Tx), xs[j]? = some x → ∃ R, Rs[j]? = some R ∧ TxR x R
theorem zjV (xs : List Tx) (h : ∀ (j : Nat) (x : Tx), xs[j]? = some x → ∃ R, TxR x R) : ∃ Rs, TxAll xs Rs := by
 induction xs with
 | nil => exact ⟨[], rfl, fun j x hx => by cases hx⟩
 | cons x xs ih =>
  obtain ⟨R, hR⟩ := h 0 x rfl
  obtain ⟨Rs, hl, hRs⟩ := ih (fun j y hy => h (j + 1) y hy)
  refine ⟨R :: Rs, by simp [hl], fun j y hy => ?_⟩
  cases j with
  | zero =>
   obtain rfl : x = y := (by simpa using hy)
   exact ⟨R, rfl, hR⟩
  | succ j => exact hRs j y hy
structure SetRel (w : World) (Rs : List RIn) (k : Nat) (v : Value) (wr : World) : Prop where
 own : wr.ownsRow w.heap.size 63 9 v k (flatS (Rs.take k))
 below : Below w.heap.size w wr
 same : setB [] Rs = setB (Rs.take k) (Rs.drop k)
structure InRel (w : World) (Rs : List RIn) (k : Nat) (v : Value) (R : RIn) (B j : Nat) (wi : World) : Prop where
 own : wi.ownsRow w.heap.size 63 9 v k (flatS (Rs.take k))
 below : Below w.heap.size w wi
 row : wi.heap[B]? = some (.cells #[.bool R.a.six, .int .u32 R.a.n, .int .i64 R.free, .bool (zB R).six, .int .u32 (zB R).n, .bool (zC R).six, .int .u32 (zC R).n, .bool (zE R).six, .int .u32 (zE R).n] 63 (0, 0))
 good : ∀ (t : Nat) (Q : RIn), t < j → (Rs.take k)[t]? = some Q → beside R Q = true
theorem InRel.on {w : World} {Rs : List RIn} {k : Nat} {v : Value} {R : RIn} {B j : Nat} {wi w2 : World} (h : InRel w Rs k v R B j wi) (hb : Below wi.heap.size wi w2) : InRel w Rs k v R B j w2 :=
 ⟨zbM h.own hb, below_tr h.below hb, row_on hb h.row, h.good⟩
theorem InRel.next {w : World} {Rs : List RIn} {k : Nat} {v : Value} {R : RIn} {B j : Nat} {wi : World} (h : InRel w Rs k v R B j wi) {Q : RIn} (hq : (Rs.take k)[j]? = some Q) (hg : beside R Q = true) : InRel w Rs k v R B (j + 1) wi :=
 ⟨h.own, h.below, h.row, fun t P ht hp => by
  by_cases e : t = j
  ·subst e; rw [hq] at hp; cases hp; exact hg
  ·exact h.good t P (by omega) hp⟩
theorem zbA {done rest : List RIn} {R Q : RIn} {j : Nat} (hq : done[j]? = some Q) (hg : beside R Q = false) : setB done (R :: rest) = false := by
 unfold setB
 have : done.all (beside R) = false := by
  rw [List.all_eq_false]
  exact ⟨Q, List.mem_of_getElem? hq, by rw [hg]; decide⟩
 rw [this, Bool.and_false, Bool.false_and]
theorem zjW {done rest : List RIn} {R : RIn} (h : okR R = false) : setB done (R :: rest) = false := by
 unfold setB; rw [h, Bool.false_and, Bool.false_and]
theorem zhN {done rest : List RIn} {R : RIn} (h : okR R = true) (hg : ∀ (t : Nat) (Q : RIn), t < done.length → done[t]? = some Q → beside R Q = true) : setB done (R :: rest) = setB (done ++ [R]) rest := by
 have : done.all (beside R) = true := by
  rw [List.all_eq_true]
  intro Q hQ
  obtain ⟨t, ht⟩ := List.getElem?_of_mem hQ
  exact hg t Q (List.getElem?_eq_some_iff.1 ht).1 ht
 rw [setB, h, this, Bool.true_and, Bool.true_and]
theorem zaF {Rs : List RIn} {k : Nat} {R : RIn} (h : Rs[k]? = some R) : Rs.drop k = R :: Rs.drop (k + 1) := by
 obtain ⟨hk, e⟩ := List.getElem?_eq_some_iff.1 h
 rw [List.drop_eq_getElem_cons hk, e]
theorem zbB {Rs : List RIn} {k : Nat} {R : RIn} (h : Rs[k]? = some R) : Rs.take (k + 1) = Rs.take k ++ [R] := by
 rw [List.take_add_one, h]; rfl
theorem SetRel.next {w : World} {Rs : List RIn} {k : Nat} {v v' : Value} {R : RIn} {B : Nat} {wr wi w2 : World} (h : SetRel w Rs k v wr) (hR : Rs[k]? = some R) (ok : okR R = true) (hi : InRel w Rs k v R B k wi) (hn : k ≤ Rs.length)
  (hown : w2.ownsRow w.heap.size 63 9 v' (k + 1) (flatS (Rs.take k) ++ spanL R)) (hb : Below w.heap.size w w2) : SetRel w Rs (k + 1) v' w2 := by
 refine ⟨?_, hb, ?_⟩
 ·rw [zbB hR]
  have : flatS (Rs.take k ++ [R]) = flatS (Rs.take k) ++ spanL R := by unfold flatS; rw [List.flatMap_append]; simp
  rw [this]
  exact hown
 ·rw [h.same, zaF hR, zbB hR]
  exact zhN ok fun t Q ht hq => hi.good t Q (by simp at ht; omega) hq
def zjX (w : World) (Rs : List RIn) (e : Ending) (w' : World) : Prop := ∃ v, e = .returned (.tuple #[v, .bool (setB [] Rs)]) ∧ Below w.heap.size w w' ∧ (setB [] Rs = true → w'.ownsRow w.heap.size 63 9 v Rs.length (flatS Rs))
theorem xM (ao : Option Addr) (cap : Nat) (xs : List Tx) (Rs : List RIn) (w : World) (h : RgsV w ao xs) (hx : TxAll xs Rs) (h4 : xs.length ≤ 1000) :
  Calls Tryz.prog 34 #[.slice ao xs.length cap] w (zjX w Rs) := by
 have H := zh h
 have HX := zh hx
 clear h hx
 obtain ⟨i0, HI', hz⟩ := Option.map_eq_some_iff.1 zjT
 simp only [Prod.mk.injEq] at hz
 obtain ⟨hz0, hz1, hz2⟩ := hz
 have HI := zh HI'
 have HZ0 := zh hz0
 have HZ1 := zh hz1
 have HZ2 := zh hz2
 clear HI' hz0 hz1 hz2
 go_enter Tryz.func34, Tryz.ntmps34
 go_wp2_with fail
 go_loopw [4, 14] (fun v i wr => ∃ k : Nat, i = .int .i64 k ∧ k ≤ xs.length ∧ Hid (SetRel w Rs k v wr)) (fun _ i _ => xs.length - (intOf i).toNat)
 case atStart => exact ⟨0, rfl, by omega, zh ⟨World.ownsRow_lit w #[] 0 (Nat.le_refl _) (by decide) (by rfl), (Below.refl _ _).alloc (Nat.le_refl _) _, rfl⟩⟩
 case round =>
  obtain ⟨k, rfl, hk, hr⟩ := hrel
  obtain ⟨av, cv, rfl, hav⟩ := yK hr.out.own
  have HAV := zh hav
  clear hav
  by_cases hlt : k < xs.length
  rotate_left
  ·have tk : decide ((k : Int) < xs.length) = false := decide_eq_false (by omega)
   have hend : setB [] Rs = decide (0 < k) := by
    rw [hr.out.same, List.drop_of_length_le (by rw [HX.out.1]; omega), List.take_of_length_le (by rw [HX.out.1]; omega)]
    have : Rs.length = k := by rw [HX.out.1]; omega
    cases Rs with
    | nil => subst this; rfl
    | cons a l => simp only [List.length_cons] at this; rw [decide_eq_true (by omega)]; rfl
   have HEND := zh hend
   clear hend
   by_cases h0 : 0 < k
   ·have t0 : decide ((0 : Int) < k) = true := decide_eq_true (by omega)
    go_wp2_with fail
    go_ret2
    exact ⟨_, by rw [HEND.out, decide_eq_true h0]; rfl, hr.out.below, fun _ => by
     have h := hr.out.own
     rw [List.take_of_length_le (by rw [HX.out.1]; omega)] at h
     rw [HX.out.1, show xs.length = k by omega]
     exact h⟩
   ·have t0 : decide ((0 : Int) < k) = false := decide_eq_false (by omega)
    go_wp2_with fail
    go_ret2
    exact ⟨_, by rw [HEND.out, decide_eq_false h0]; rfl, hr.out.below, fun h => by rw [HEND.out, decide_eq_false h0] at h; cases h⟩
  have tk : decide ((k : Int) < xs.length) = true := decide_eq_true (by omega)
  have hx : xs[k]? = some xs[k] := List.getElem?_eq_getElem hlt
  obtain ⟨R, hR, htx⟩ := HX.out.2 k _ hx
  obtain ⟨b, off, rfl, hbl, c0, c1, c2, c3⟩ := H.out.on hr.out.below k _ hx
  clear hx
  generalize xs[k] = x at *
  have HR := zh hR
  have HS := zh (fun w => zfX x.a x.b x.c x.d R w htx.1 htx.2.1 htx.2.2.1 htx.2.2.2)
  have hkn : k < Rs.length := (List.getElem?_eq_some_iff.1 hR).1
  clear hR htx
  go_wp2_with fail
  refine (HS.out _).mono ?_
  rintro e w2 ⟨net, free, st, en, gw, rfl, hv, hb2⟩
  have hbw := below_tr ((Below.refl wr.heap.size wr).alloc (Nat.le_refl _) _) hb2
  have HO2 := zh (zbM hr.out.own hbw)
  have HB2 := zh (below_tr hr.out.below hbw)
  clear hb2 hbw c0 c1 c2 c3 HS
  unfold spanv
  cases hok : okR R with
  | false =>
   have HF := zh (show setB [] Rs = false from by rw [hr.out.same, zaF HR.out]; exact zjW hok)
   clear hok hv
   go_wp2_with fail
   go_ret2
   exact ⟨_, by rw [HF.out]; rfl, HB2.out.alloc HB2.out.size _, fun h => by rw [HF.out] at h; cases h⟩
  | true =>
   obtain ⟨rfl, rfl, rfl, rfl, rfl⟩ := hv hok
   have HOK := zh hok
   clear hok hv
   go_wp2_with fail
   have HIN := zh (show InRel w Rs k (.slice av k cv) R w2.heap.size 0 _ from InRel.mk (zbM HO2.out ((Below.refl _ _).alloc (Nat.le_refl _) _)) (HB2.out.alloc HB2.out.size _) (heap_alloc_new w2 (.cells #[.bool R.a.six, .int .u32 R.a.n, .int .i64 R.free, .bool (zB R).six, .int .u32 (zB R).n, .bool (zC R).six, .int .u32 (zC R).n, .bool (zE R).six, .int .u32 (zE R).n] 63)) (fun t Q ht => absurd ht (by omega)))
   go_loopw [27] (fun i wi => ∃ j : Nat, i = .int .i64 j ∧ j ≤ k ∧ Hid (InRel w Rs k (.slice av k cv) R w2.heap.size j wi)) (fun i _ => k - (intOf i).toNat)
   case atStart => exact ⟨0, rfl, by omega, HIN⟩
   case round =>
    obtain ⟨j, rfl, hj, hi⟩ := hrel
    have hrow := hi.out.row
    have s0 : wr.cell? ⟨w2.heap.size, 0, none⟩ = some (.bool R.a.six) := cell_of_row wr _ 0 _ _ _ hrow
    have s1 : wr.cell? ⟨w2.heap.size, 1, none⟩ = some (.int .u32 R.a.n) := cell_of_row wr _ 1 _ _ _ hrow
    have s2 : wr.cell? ⟨w2.heap.size, 2, none⟩ = some (.int .i64 R.free) := cell_of_row wr _ 2 _ _ _ hrow
    have s3 : wr.cell? ⟨w2.heap.size, 3, none⟩ = some (.bool (zB R).six) := cell_of_row wr _ 3 _ _ _ hrow
    have s4 : wr.cell? ⟨w2.heap.size, 4, none⟩ = some (.int .u32 (zB R).n) := cell_of_row wr _ 4 _ _ _ hrow
    have s5 : wr.cell? ⟨w2.heap.size, 5, none⟩ = some (.bool (zC R).six) := cell_of_row wr _ 5 _ _ _ hrow
    have s6 : wr.cell? ⟨w2.heap.size, 6, none⟩ = some (.int .u32 (zC R).n) := cell_of_row wr _ 6 _ _ _ hrow
    have s7 : wr.cell? ⟨w2.heap.size, 7, none⟩ = some (.bool (zE R).six) := cell_of_row wr _ 7 _ _ _ hrow
    have s8 : wr.cell? ⟨w2.heap.size, 8, none⟩ = some (.int .u32 (zE R).n) := cell_of_row wr _ 8 _ _ _ hrow
    have sz : w2.heap.size < wr.heap.size := (Array.getElem?_eq_some_iff.1 hrow).1
    clear hrow
    by_cases hjk : j < k
    ·have tj : decide ((j : Int) < k) = true := decide_eq_true (by omega)
     obtain ⟨g, rfl⟩ := HAV.out (by omega)
     have hq : (Rs.take k)[j]? = some Rs[j] := by rw [List.getElem?_take, if_pos hjk, List.getElem?_eq_getElem]
     generalize Rs[j] = Q at hq
     have hl : ∀ c, c < 9 → wr.cell? ⟨g, j * 9 + c, none⟩ = (spanL Q)[c]? := fun c hc => (hi.out.own.cellAt (j * 9 + c) (by omega)).trans (yZ _ _ _ _ hq hc)
     have q0 : wr.cell? ⟨g, j * 9, none⟩ = some (.bool Q.a.six) := hl 0 (by decide)
     have q1 : wr.cell? ⟨g, j * 9 + 1, none⟩ = some (.int .u32 Q.a.n) := hl 1 (by decide)
     have q2 : wr.cell? ⟨g, j * 9 + 2, none⟩ = some (.int .i64 Q.free) := hl 2 (by decide)
     have q3 : wr.cell? ⟨g, j * 9 + 3, none⟩ = some (.bool (zB Q).six) := hl 3 (by decide)
     have q4 : wr.cell? ⟨g, j * 9 + 4, none⟩ = some (.int .u32 (zB Q).n) := hl 4 (by decide)
     have q5 : wr.cell? ⟨g, j * 9 + 5, none⟩ = some (.bool (zC Q).six) := hl 5 (by decide)
     have q6 : wr.cell? ⟨g, j * 9 + 6, none⟩ = some (.int .u32 (zC Q).n) := hl 6 (by decide)
     have q7 : wr.cell? ⟨g, j * 9 + 7, none⟩ = some (.bool (zE Q).six) := hl 7 (by decide)
     have q8 : wr.cell? ⟨g, j * 9 + 8, none⟩ = some (.int .u32 (zE Q).n) := hl 8 (by decide)
     have gz : g < wr.heap.size := World.block_lt_of_cell? wr _ q0
     have HQ := zh hq
     clear hl hq
     obtain ⟨x6, e6⟩ : ∃ x : Bool, x = Q.a.six := ⟨_, rfl⟩
     obtain ⟨y6, f6⟩ : ∃ x : Bool, x = R.a.six := ⟨_, rfl⟩
     rw [← e6] at q0
     rw [← f6] at s0
     obtain ⟨mb, em⟩ : ∃ x : Bool, x = meetB R.a (zB R) (zC R) Q.a (zB Q) (zC Q) := ⟨_, rfl⟩
     have HM := zh (show ∀ w, Calls Tryz.prog 60 #[.agg #[.bool y6, .int .u32 R.a.n, .int .i64 R.free, .bool (zB R).six, .int .u32 (zB R).n, .bool (zC R).six, .int .u32 (zC R).n, .bool (zE R).six, .int .u32 (zE R).n], .agg #[.bool x6, .int .u32 Q.a.n, .int .i64 Q.free, .bool (zB Q).six, .int .u32 (zB Q).n, .bool (zC Q).six, .int .u32 (zC Q).n, .bool (zE Q).six, .int .u32 (zE Q).n]] w (BelowPost w (.bool mb)) from fun w => by
      rw [e6, f6, em]
      exact zjK R.a (zB R) (zC R) (zE R) Q.a (zB Q) (zC Q) (zE Q) R.free Q.free w)
     have HBS := zh (show beside R Q = ((x6 == y6) && !mb) from by rw [e6, f6, em]; rfl)
     clear e6 f6 em
     cases x6 with
     | true =>
      cases y6 with
      | true =>
       go_wp2_with fail
       refine (HM.out _).mono ?_
       rintro e w4 ⟨rfl, hb4⟩
       have HI4 := zh (hi.out.on (below_tr ((Below.refl wr.heap.size wr).alloc (Nat.le_refl _) _) hb4))
       clear hb4 q0 q1 q2 q3 q4 q5 q6 q7 q8 s0 s1 s2 s3 s4 s5 s6 s7 s8 HM
       cases mb with
       | true =>
        have HF := zh (show setB [] Rs = false from by
         rw [hr.out.same, zaF HR.out]
         exact zbA HQ.out (by rw [HBS.out]; rfl))
        go_wp2_with fail
        go_ret2
        exact ⟨_, by rw [HF.out]; rfl, HI4.out.below, fun h => by rw [HF.out] at h; cases h⟩
       | false =>
        have HN := zh (HI4.out.next HQ.out (show beside R Q = true from by rw [HBS.out]; rfl))
        go_wp2_with fail
        go_roundw
        case rel => exact ⟨j + 1, by simp, by omega, HN⟩
        case measure => simp [intOf]; omega
      | false =>
       have HF := zh (show setB [] Rs = false from by
        rw [hr.out.same, zaF HR.out]
        exact zbA HQ.out (by rw [HBS.out]; rfl))
       go_wp2_with fail
       go_ret2
       exact ⟨_, by rw [HF.out]; rfl, hi.out.below.alloc hi.out.below.size _, fun h => by rw [HF.out] at h; cases h⟩
     | false =>
      cases y6 with
      | true =>
       have HF := zh (show setB [] Rs = false from by
        rw [hr.out.same, zaF HR.out]
        exact zbA HQ.out (by rw [HBS.out]; rfl))
       go_wp2_with fail
       go_ret2
       exact ⟨_, by rw [HF.out]; rfl, hi.out.below.alloc hi.out.below.size _, fun h => by rw [HF.out] at h; cases h⟩
      | false =>
       go_wp2_with fail
       refine (HM.out _).mono ?_
       rintro e w4 ⟨rfl, hb4⟩
       have HI4 := zh (hi.out.on (below_tr ((Below.refl wr.heap.size wr).alloc (Nat.le_refl _) _) hb4))
       clear hb4 q0 q1 q2 q3 q4 q5 q6 q7 q8 s0 s1 s2 s3 s4 s5 s6 s7 s8 HM
       cases mb with
       | true =>
        have HF := zh (show setB [] Rs = false from by
         rw [hr.out.same, zaF HR.out]
         exact zbA HQ.out (by rw [HBS.out]; rfl))
        go_wp2_with fail
        go_ret2
        exact ⟨_, by rw [HF.out]; rfl, HI4.out.below, fun h => by rw [HF.out] at h; cases h⟩
       | false =>
        have HN := zh (HI4.out.next HQ.out (show beside R Q = true from by rw [HBS.out]; rfl))
        go_wp2_with fail
        go_roundw
        case rel => exact ⟨j + 1, by simp, by omega, HN⟩
        case measure => simp [intOf]; omega
    ·have tj : decide ((j : Int) < k) = false := decide_eq_false (by omega)
     obtain rfl : j = k := by omega
     go_wp2_with (focus (at_builtin; go_must (refine wpList_append_own _ rfl _ _ 78 rfl w.heap.size 63 i0 (.agg #[.bool false, .int .u32 0, .int .i64 0, .bool false, .int .u32 0, .bool false, .int .u32 0, .bool false, .int .u32 0]) 9 40 Tryz.underlying78 HI.out HZ0.out HZ1.out HZ2.out (by rfl) (by decide) _ j (flatS (Rs.take j)) rfl (zbM hi.out.own ((Below.refl _ _).alloc (Nat.le_refl _) _)) ⟨wr.heap.size, 0, none⟩ 1 1 (spanL R) rfl rfl (zgD wr R) (zjU R) (by unfold maxLen; omega) (by omega) (by have := hi.out.below.size; simp; omega) ?_)))
     intro v' w' hown hg _
     have HN := zh (hr.out.next HR.out HOK.out hi.out (by omega) hown ((hi.out.below.alloc hi.out.below.size _).grown hg (by have := hi.out.below.size; simp; omega) (fun q hq => (hi.out.own.lt q hq).1)))
     clear hown hg
     go_wp2_with fail
     go_roundw
     case rel => exact ⟨j + 1, by simp, by omega, HN⟩
     case measure => simp [intOf]; omega
def isSl (u : Value) : Prop := ∃ b n c, u = .slice b n c
structure El where
 v0 : Value
 v1 : Value
 vi : Value
 vm : Value
 v4 : Value
def El.vals (e : El) : List Value := [e.v0, e.v1, e.vi, e.vm, e.v4]
def flat5 (es : List El) : List Value := es.flatMap El.vals
theorem zjY (es : List El) (j c : Nat) (e : El) (h : es[j]? = some e) (hc : c < 5) : (flat5 es)[j * 5 + c]? = e.vals[c]? := by
 induction es generalizing j with
 | nil => cases h
 | cons a es ih =>
  have e' : flat5 (a :: es) = a.vals ++ flat5 es := rfl
  have hl : a.vals.length = 5 := rfl
  cases j with
  | zero =>
   obtain rfl : a = e := by simpa using h
   rw [e', List.getElem?_append_left (by rw [hl]; omega), Nat.zero_mul, Nat.zero_add]
  | succ j =>
   rw [e', List.getElem?_append_right (by rw [hl]; omega), hl, show (j + 1) * 5 + c - 5 = j * 5 + c by omega]
   exact ih j h
def ElAt (w : World) (e : El) (R : RIn) : Prop := OptAt w e.v0 R.o1 ∧ OptAt w e.v1 R.o2 ∧ OptAt w e.v4 R.o3 ∧ LongAt w e.vi R.a ∧ IPAt w e.vm (R.a.mask R.free)
section
variable {w w' : World} {v : Value} {bs : List UInt8} {g : Nat} {o : Option Ad} {R : RIn} {e : El}
theorem IPAt.past (h : IPAt w v bs) (nb : ∀ (j : Nat) (x : UInt8), w.cell? ⟨g, j, none⟩ ≠ some (u8v x)) (hg : w.grownBy w' (some g)) : IPAt w' v bs := by
 obtain ⟨⟨ao, cap, hv, hl, hm, hn, hc⟩, hp⟩ := h
 refine ⟨⟨ao, cap, hv, hl, hm, hn, fun p hpp j u hu => ?_⟩, hp⟩
 have h1 := hc p hpp j u hu
 have hs := spot_none_of_cell h1
 refine hg.cell h1 fun e => ?_
 obtain ⟨x, rfl⟩ : ∃ x : UInt8, u = u8v x := by
  have := List.mem_of_getElem? hu
  simp only [ipv, List.mem_map] at this
  obtain ⟨x, _, rfl⟩ := this
  exact ⟨x, rfl⟩
 have hb : (p.add j).block = g := Option.some.inj e
 refine nb (p.add j).off x ?_
 rw [← h1]
 congr 1
 rw [← hb, ← hs]
theorem OptAt.past (h : OptAt w v o) (nb : ∀ (j : Nat) (x : UInt8), w.cell? ⟨g, j, none⟩ ≠ some (u8v x)) (hg : w.grownBy w' (some g)) : OptAt w' v o := by
 cases o with
 | none => exact h
 | some a => exact h.elim (fun h => .inl (IPAt.past h nb hg)) (fun h => .inr (IPAt.past h nb hg))
theorem ElAt.on (h : ElAt w e R) (hb : Below w.heap.size w w') : ElAt w' e R := ⟨h.1.keep hb, h.2.1.keep hb, h.2.2.1.keep hb, IPAt.keep h.2.2.2.1 hb, IPAt.keep h.2.2.2.2 hb⟩
theorem ElAt.past (h : ElAt w e R) (nb : ∀ (j : Nat) (x : UInt8), w.cell? ⟨g, j, none⟩ ≠ some (u8v x)) (hg : w.grownBy w' (some g)) : ElAt w' e R :=
 ⟨h.1.past nb hg, h.2.1.past nb hg, h.2.2.1.past nb hg, IPAt.past h.2.2.2.1 nb hg, IPAt.past h.2.2.2.2 nb hg⟩
theorem ElAt.set {p : Addr} {z : Value} (h : ElAt w e R) (hp : ∀ x : UInt8, w.cell? p ≠ some (u8v x)) : ElAt (w.setCell p z) e R :=
 ⟨h.1.set hp, h.2.1.set hp, h.2.2.1.set hp, IPAt.set h.2.2.2.1 hp, IPAt.set h.2.2.2.2 hp⟩
theorem ElAt.sl (h : ElAt w e R) : ∀ u ∈ e.vals, isSl u := by
 intro u hu
 simp only [El.vals, List.mem_cons, List.not_mem_nil, or_false] at hu
 rcases hu with rfl | rfl | rfl | rfl | rfl
 ·exact h.1.slice
 ·exact h.2.1.slice
 ·exact zK h.2.2.2.1.1
 ·exact zK h.2.2.2.2.1
 ·exact h.2.2.1.slice
end
theorem zmR : (Tryz.prog.info? 72).map (fun i => (i.zero, i.size, i.bytes)) = some (some (.agg #[.slice none 0 0, .slice none 0 0, .slice none 0 0, .slice none 0 0, .slice none 0 0]), 5, 120) := by kernel_rfl
theorem zlO (k : Nat) : ∀ u ∈ (Builtin.zeroCells (Value.agg #[.slice none 0 0, .slice none 0 0, .slice none 0 0, .slice none 0 0, .slice none 0 0]).cells k).toList, isSl u := by
 intro u hu
 unfold Builtin.zeroCells at hu
 simp only [Array.toList_map, List.mem_map] at hu
 obtain ⟨i, _, rfl⟩ := hu
 have hlt : i % 5 < 5 := Nat.mod_lt _ (by decide)
 show isSl (#[Value.slice none 0 0, .slice none 0 0, .slice none 0 0, .slice none 0 0, .slice none 0 0][i % 5]!)
 generalize i % 5 = j at hlt
 obtain rfl | rfl | rfl | rfl | rfl : j = 0 ∨ j = 1 ∨ j = 2 ∨ j = 3 ∨ j = 4 := by omega
 all_goals exact ⟨_, _, _, rfl⟩
structure OutR (w : World) (Rs : List RIn) (k g cap : Nat) (es : List El) (wr : World) : Prop where
 rowC : wr.heap[w.heap.size + 1]? = some (.cells #[.slice (some ⟨g, 0, none⟩) k cap] 89 (0, 0))
 rowD : wr.heap[w.heap.size + 2]? = some (.cells #[.bool true] 4 (0, 0))
 own : OwnP wr w.heap.size 72 5 isSl g k cap (flat5 es)
 ne1 : g ≠ w.heap.size + 1
 ne2 : g ≠ w.heap.size + 2
 els : ∀ (i : Nat) (R : RIn), i < k → Rs[i]? = some R → ∃ e, es[i]? = some e ∧ ElAt wr e R
 len : es.length = k
 below : Below w.heap.size w wr
section
variable {w wr w1 w2 w' : World} {Rs : List RIn} {k g cap g' cap' : Nat} {es : List El} {R : RIn} {e : El}
theorem OutR.on (h : OutR w Rs k g cap es wr) (hb : Below wr.heap.size wr w2) : OutR w Rs k g cap es w2 :=
 ⟨row_on hb h.rowC, row_on hb h.rowD, h.own.on hb, h.ne1, h.ne2, fun i R hi hr => let ⟨e, h1, h2⟩ := h.els i R hi hr; ⟨e, h1, h2.on hb⟩, h.len, below_tr h.below hb⟩
theorem OutR.nb (h : OutR w Rs k g cap es wr) : ∀ (j : Nat) (x : UInt8), wr.cell? ⟨g, j, none⟩ ≠ some (u8v x) := fun j x hx => by
 obtain ⟨b, n, c, hu⟩ := h.own.kind j _ hx
 simp [u8v] at hu
theorem OutR.next (h : OutR w Rs k g cap es w1) (hR : Rs[k]? = some R) (he : ElAt w1 e R) (hown : OwnP w' w.heap.size 72 5 isSl g' (k + 1) cap' (flat5 es ++ e.vals)) (hg : w1.grownBy w' (some g)) (hgg : g' = g ∨ g' = w1.heap.size) :
  OutR w Rs (k + 1) g' cap' (es ++ [e]) ((w'.setCell ⟨w.heap.size + 1, 0, none⟩ (.slice (some ⟨g', 0, none⟩) (k + 1) cap')).setCell ⟨w.heap.size + 2, 0, none⟩ (.bool true)) := by
 have l1 : w.heap.size + 1 < w1.heap.size := (Array.getElem?_eq_some_iff.1 h.rowC).1
 have l2 : w.heap.size + 2 < w1.heap.size := (Array.getElem?_eq_some_iff.1 h.rowD).1
 have n1 : g' ≠ w.heap.size + 1 := by rcases hgg with rfl | rfl; exact h.ne1; omega
 have n2 : g' ≠ w.heap.size + 2 := by rcases hgg with rfl | rfl; exact h.ne2; omega
 have r1 : w'.heap[w.heap.size + 1]? = some (.cells #[.slice (some ⟨g, 0, none⟩) k cap] 89 (0, 0)) := by
  rw [hg.block _ l1 (by simpa using h.ne1.symm)]; exact h.rowC
 have r2 : w'.heap[w.heap.size + 2]? = some (.cells #[.bool true] 4 (0, 0)) := by
  rw [hg.block _ l2 (by simpa using h.ne2.symm)]; exact h.rowD
 have s1 := heap_setCell_same w' (w.heap.size + 1) 0 _ _ (.slice (some ⟨g', 0, none⟩) (k + 1) cap') r1
 have s2 : (w'.setCell ⟨w.heap.size + 1, 0, none⟩ (.slice (some ⟨g', 0, none⟩) (k + 1) cap')).heap[w.heap.size + 2]? = some (.cells #[.bool true] 4 (0, 0)) :=
  (Below.heap_setCell _ _ _ _ (by show w.heap.size + 2 ≠ w.heap.size + 1; omega)).trans r2
 have s3 := heap_setCell_same _ (w.heap.size + 2) 0 _ _ (.bool true) s2
 have c1 : ∀ x : UInt8, w'.cell? ⟨w.heap.size + 1, 0, none⟩ ≠ some (u8v x) := fun x => by rw [cell_of_row _ _ 0 _ _ _ r1]; simp [u8v]
 have c2 : ∀ x : UInt8, (w'.setCell ⟨w.heap.size + 1, 0, none⟩ (.slice (some ⟨g', 0, none⟩) (k + 1) cap')).cell? ⟨w.heap.size + 2, 0, none⟩ ≠ some (u8v x) := fun x => by rw [cell_of_row _ _ 0 _ _ _ s2]; simp [u8v]
 refine ⟨(Below.heap_setCell _ _ _ _ (by show w.heap.size + 1 ≠ w.heap.size + 2; omega)).trans s1, s3, ?_, n1, n2, fun i Q hi hq => ?_, by simp [h.len], ?_⟩
 ·obtain ⟨h1, h2, h3, h4, cur, h5, h6, h7, h8⟩ := hown
  have hf : flat5 (es ++ [e]) = flat5 es ++ e.vals := by unfold flat5; rw [List.flatMap_append]; simp
  rw [hf]
  exact ⟨h1, h2, h3, h4, cur, (Below.heap_setCell _ _ _ _ n2).trans ((Below.heap_setCell _ _ _ _ n1).trans h5), h6, h7, h8⟩
 ·by_cases ek : i = k
  ·subst ek
   rw [hR] at hq
   cases hq
   exact ⟨e, by rw [List.getElem?_append_right (by rw [h.len]; exact Nat.le_refl _), h.len]; simp, ((he.past h.nb hg).set c1).set c2⟩
  ·obtain ⟨a, h1, h2⟩ := h.els i Q (by omega) hq
   exact ⟨a, by rw [List.getElem?_append_left (by rw [h.len]; omega)]; exact h1, ((h2.past h.nb hg).set c1).set c2⟩
 ·exact ((h.below.grown hg (by omega) (fun j hj => by cases hj; exact h.own.2.1)).setCell (by show w.heap.size ≤ w.heap.size + 1; omega) _).setCell (by show w.heap.size ≤ w.heap.size + 2; omega) _
theorem OutR.setIn (h : OutR w Rs k g cap es wr) (hk : k = Rs.length) (ok : ∀ (i : Nat) (R : RIn), Rs[i]? = some R → ROk R) : SetIn wr (w.heap.size + 1) g k cap Rs := by
 refine ⟨h.rowC, h.ne1.symm, hk, h.own.2.2.1, h.own.2.2.2.1, ⟨fun j x _ => h.nb j x, h.own.frozen, fun i R _ hr => ?_, fun i R hi => absurd hi (by omega), World.grownBy.refl _ _, h.own.lt⟩, ok⟩
 have hi : i < k := by rw [hk]; exact (List.getElem?_eq_some_iff.1 hr).1
 obtain ⟨e, h1, h2, h3, h4, h5, h6⟩ := h.els i R hi hr
 have hc : ∀ c, c < 5 → wr.cell? ⟨g, i * 5 + c, none⟩ = e.vals[c]? := fun c hc => (h.own.cell (i * 5 + c) (by omega)).trans (zjY es i c e h1 hc)
 exact ⟨e.v0, e.v1, e.vi, e.vm, e.v4, ⟨hc 0 (by decide), hc 1 (by decide), hc 2 (by decide), hc 3 (by decide), hc 4 (by decide)⟩, h2, h3, h4, h5, h6⟩
end
theorem zjZ (done rest : List RIn) : setB done rest = true ↔ done ++ rest ≠ [] ∧ (∀ R ∈ rest, okR R = true) ∧ ∀ (i j : Nat) (Q R : RIn), i < j → done.length ≤ j → (done ++ rest)[i]? = some Q → (done ++ rest)[j]? = some R → beside R Q = true := by
 induction rest generalizing done with
 | nil =>
  unfold setB
  rw [List.append_nil]
  constructor
  ·intro h
   refine ⟨(fun e => by subst e; cases h), (fun R hR => by cases hR), fun i j Q R _ hj _ hr => ?_⟩
   have := (List.getElem?_eq_some_iff.1 hr).1
   omega
  ·rintro ⟨h, _⟩
   cases done with
   | nil => exact absurd rfl h
   | cons a l => rfl
 | cons P rest ih =>
  rw [setB, Bool.and_eq_true, Bool.and_eq_true, ih, List.append_assoc, List.singleton_append, List.all_eq_true]
  constructor
  ·rintro ⟨⟨h1, h2⟩, h3, h4, h5⟩
   refine ⟨by simp, fun R hR => ?_, fun i j Q R hij hj hi hr => ?_⟩
   ·rcases List.mem_cons.1 hR with rfl | hR
    ·exact h1
    ·exact h4 R hR
   ·by_cases e : j = done.length
    ·subst e
     have hR : P = R := by rw [List.getElem?_append_right (Nat.le_refl _)] at hr; simpa using hr
     subst hR
     rw [List.getElem?_append_left hij] at hi
     exact h2 Q (List.mem_of_getElem? hi)
    ·exact h5 i j Q R hij (by simp; omega) hi hr
  ·rintro ⟨h1, h2, h3⟩
   refine ⟨⟨h2 P (by simp), fun Q hQ => ?_⟩, by simp, fun R hR => h2 R (by simp [hR]), fun i j Q R hij hj hi hr => h3 i j Q R hij (by simp at hj; omega) hi hr⟩
   obtain ⟨t, ht⟩ := List.getElem?_of_mem hQ
   have hl := (List.getElem?_eq_some_iff.1 ht).1
   exact h3 t done.length Q P hl (Nat.le_refl _) (by rw [List.getElem?_append_left hl]; exact ht) (by rw [List.getElem?_append_right (Nat.le_refl _)]; simp)
theorem zgE (Rs : List RIn) : xL Rs = true ↔ ∀ (i j : Nat) (R Q : RIn), i < j → Rs[i]? = some R → Rs[j]? = some Q → ovrR R Q = false := by
 constructor
 ·intro h i j R Q hij hi hj
  cases ho : ovrR R Q with
  | false => rfl
  | true => rw [zaE hi hj hij ho] at h; cases h
 ·exact zcE
theorem zdJ {R Q : RIn} (hg : yP R) (hg' : yP Q) (h : okR R = true) (h' : okR Q = true) : (zB R).width = (zB Q).width ↔ R.a.six = Q.a.six := by
 obtain ⟨_, h1, _⟩ := zcC hg h
 obtain ⟨_, g1, _⟩ := zcC hg' h'
 unfold Ad.width
 rw [h1, g1]
 cases R.a.six <;> cases Q.a.six <;> simp
theorem zhO (Rs : List RIn) (hg : ∀ R ∈ Rs, yP R) : implB Rs = setB [] Rs := by
 rw [Bool.eq_iff_iff, zjZ, List.nil_append]
 cases Rs with
 | nil => simp [implB]
 | cons P l =>
  rw [yE, Bool.and_eq_true, Bool.and_eq_true, List.all_eq_true, List.all_eq_true, zgE]
  have mem : ∀ {i : Nat} {R : RIn}, (P :: l)[i]? = some R → R ∈ P :: l := fun h => List.mem_of_getElem? h
  constructor
  ·rintro ⟨⟨h1, h2⟩, h3⟩
   refine ⟨by simp, h1, fun i j Q R hij _ hi hj => ?_⟩
   have w1 := h2 Q (mem hi)
   have w2 := h2 R (mem hj)
   simp only [decide_eq_true_eq] at w1 w2
   have h6 := (zdJ (hg Q (mem hi)) (hg R (mem hj)) (h1 Q (mem hi)) (h1 R (mem hj))).1 (w1.symm.trans w2)
   have ho := h3 i j Q R hij hi hj
   rw [zcP (hg Q (mem hi)) (h1 Q (mem hi)) (hg R (mem hj)) (h1 R (mem hj)), zcF] at ho
   unfold beside
   rw [ho, h6]
   simp
  ·rintro ⟨_, h1, h3⟩
   refine ⟨⟨h1, fun Q hQ => ?_⟩, fun i j R Q hij hi hj => ?_⟩
   ·obtain ⟨t, ht⟩ := List.getElem?_of_mem hQ
    rw [decide_eq_true_eq, zdJ (hg P (by simp)) (hg Q hQ) (h1 P (by simp)) (h1 Q hQ)]
    cases t with
    | zero =>
     obtain rfl : P = Q := by simpa using ht
     rfl
    | succ t =>
     have hb := h3 0 (t + 1) P Q (by omega) (Nat.zero_le _) rfl ht
     unfold beside at hb
     simp only [Bool.and_eq_true, beq_iff_eq] at hb
     exact hb.1
   ·have hb := h3 i j R Q hij (Nat.zero_le _) hi hj
    unfold beside at hb
    simp only [Bool.and_eq_true, Bool.not_eq_true'] at hb
    rw [zcP (hg R (mem hi)) (h1 R (mem hi)) (hg Q (mem hj)) (h1 Q (mem hj)), zcF]
    exact hb.2
end Go.Proofs.YtnehofekgnbelaaGreatDoor

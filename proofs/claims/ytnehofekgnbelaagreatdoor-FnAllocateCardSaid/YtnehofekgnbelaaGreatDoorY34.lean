/-
  Texts put together: SetC, SetT
-/
import Derived.Test.YtnehofekgnbelaaGreatDoorY26
namespace Go.Proofs.YtnehofekgnbelaaGreatDoor
open Go.RowKit
set_option linter.unusedVariables false
set_option maxRecDepth 100000
set_option maxHeartbeats 1000000
def xL : List RIn → Bool
 | [] => true
 | R :: l => l.all (fun Q => !ovrR R Q) && xL l
def implB : List RIn → Bool
 | [] => false
 | R :: l => (R :: l).all okR && (R :: l).all (fun Q => decide ((zB R).width = (zB Q).width)) && xL (R :: l)
theorem yE (R : RIn) (l : List RIn) : implB (R :: l) = ((R :: l).all okR && (R :: l).all (fun Q => decide ((zB R).width = (zB Q).width)) && xL (R :: l)) := rfl
theorem zbL (R : RIn) (l : List RIn) : xL (R :: l) = (l.all (fun Q => !ovrR R Q) && xL l) := rfl
theorem zhM {Rs : List RIn} {k : Nat} {Q : RIn} (hq : Rs[k]? = some Q) (h : okR Q = false) : implB Rs = false := by
 cases Rs with
 | nil => cases hq
 | cons R l =>
  have : (R :: l).all okR = false := by rw [List.all_eq_false]; exact ⟨Q, List.mem_of_getElem? hq, by rw [h]; decide⟩
  rw [yE, this, Bool.false_and, Bool.false_and]
theorem zfY {Rs : List RIn} {k : Nat} {R Q : RIn} (hr : Rs[0]? = some R) (hq : Rs[k]? = some Q) (h : (zB R).width ≠ (zB Q).width) : implB Rs = false := by
 cases Rs with
 | nil => cases hq
 | cons R' l =>
  obtain rfl : R' = R := by simpa using hr
  have : (R' :: l).all (fun Q => decide ((zB R').width = (zB Q).width)) = false := by rw [List.all_eq_false]; exact ⟨Q, List.mem_of_getElem? hq, by simpa using h⟩
  rw [yE, this, Bool.and_false, Bool.false_and]
theorem zaE {Rs : List RIn} {i j : Nat} {R Q : RIn} (hi : Rs[i]? = some R) (hj : Rs[j]? = some Q) (hij : i < j) (h : ovrR R Q = true) : xL Rs = false := by
 induction Rs generalizing i j with
 | nil => cases hi
 | cons P l ih =>
  rw [zbL]
  cases j with
  | zero => omega
  | succ j =>
   cases i with
   | zero =>
    obtain rfl : P = R := by simpa using hi
    have : l.all (fun Q => !ovrR P Q) = false := by rw [List.all_eq_false]; exact ⟨Q, List.mem_of_getElem? (by simpa using hj), by rw [h]; decide⟩
    rw [this, Bool.false_and]
   | succ i => rw [ih (by simpa using hi) (by simpa using hj) (by omega), Bool.and_false]
theorem zcE {Rs : List RIn} (h : ∀ (i j : Nat) (R Q : RIn), i < j → Rs[i]? = some R → Rs[j]? = some Q → ovrR R Q = false) : xL Rs = true := by
 induction Rs with
 | nil => rfl
 | cons P l ih =>
  rw [zbL, ih (fun i j R Q hij hi hj => h (i + 1) (j + 1) R Q (by omega) hi hj), Bool.and_true, List.all_eq_true]
  intro Q hQ
  obtain ⟨t, ht⟩ := List.getElem?_of_mem hQ
  rw [h 0 (t + 1) P Q (by omega) rfl ht]; rfl
theorem zfZ {Rs : List RIn} {i j : Nat} {R Q : RIn} (hi : Rs[i]? = some R) (hj : Rs[j]? = some Q) (hij : i < j) (h : ovrR R Q = true) : implB Rs = false := by
 cases Rs with
 | nil => cases hi
 | cons P l => rw [yE, zaE hi hj hij h, Bool.and_false]
theorem zgA {Rs : List RIn} {R0 : RIn} (h0 : Rs[0]? = some R0) (ok : ∀ (i : Nat) (R : RIn), Rs[i]? = some R → okR R = true ∧ (zB R0).width = (zB R).width) (h : ∀ (i j : Nat) (R Q : RIn), i < j → Rs[i]? = some R → Rs[j]? = some Q → ovrR R Q = false) : implB Rs = true := by
 cases Rs with
 | nil => cases h0
 | cons P l =>
  obtain rfl : P = R0 := by simpa using h0
  have a1 : (P :: l).all okR = true := by
   rw [List.all_eq_true]; intro Q hQ
   obtain ⟨t, ht⟩ := List.getElem?_of_mem hQ
   exact (ok t Q ht).1
  have a2 : (P :: l).all (fun Q => decide ((zB P).width = (zB Q).width)) = true := by
   rw [List.all_eq_true]; intro Q hQ
   obtain ⟨t, ht⟩ := List.getElem?_of_mem hQ
   simpa using (ok t Q ht).2
  rw [yE, a1, a2, zcE h]; rfl
def zgB (w0 : World) (g : Nat) (Rs : List RIn) (e : Ending) (w' : World) : Prop :=
 (implB Rs = true ∧ e = .returned .nilIface ∧ SetM w0 g Rs Rs.length w') ∨ (implB Rs = false ∧ (∃ b, e = .returned (.iface 203 (.pointer (some ⟨b, 0, none⟩)))) ∧ w0.grownBy w' (some g))
structure Loop1 (w0 : World) (g : Nat) (Rs : List RIn) (R0 : RIn) (k : Nat) (fam : Value) (w : World) : Prop where
 set : SetM w0 g Rs k w
 good : ∀ (i : Nat) (R : RIn), i < k → Rs[i]? = some R → okR R = true ∧ (zB R0).width = (zB R).width
 fam : fam = .int .i64 (if k = 0 then 0 else (zB R0).width : Nat)
structure In3 (w0 : World) (g : Nat) (Rs : List RIn) (n p : Nat) (R : RIn) (B : Nat) (v0 v1 vi vm v4 : Value) (q : Nat) (w : World) : Prop where
 set : SetM w0 g Rs n w
 row : w.heap[B]? = some (.cells #[v0, v1, vi, vm, v4] 72 (0, 0))
 hs : BriefAt w v0 (zB R)
 he : BriefAt w v1 (zC R)
 net : BriefAt w vi R.a
 mask : IPAt w vm (R.a.mask R.free)
 none : ∀ (y : Nat) (Q : RIn), p < y → y < p + 1 + q → Rs[y]? = some Q → ovrR R Q = false
theorem In3.on {w0 w w' : World} {g n p B q : Nat} {Rs : List RIn} {R : RIn} {v0 v1 vi vm v4 : Value} (h : In3 w0 g Rs n p R B v0 v1 vi vm v4 q w) (hb : Below w.heap.size w w') : In3 w0 g Rs n p R B v0 v1 vi vm v4 q w' :=
 ⟨h.set.on hb, row_on hb h.row, BriefAt.keep h.hs hb, BriefAt.keep h.he hb, BriefAt.keep h.net hb, IPAt.keep h.mask hb, h.none⟩
theorem In3.next {w0 w : World} {g n p B q : Nat} {Rs : List RIn} {R Q : RIn} {v0 v1 vi vm v4 : Value} (h : In3 w0 g Rs n p R B v0 v1 vi vm v4 q w) (hQ : Rs[p + 1 + q]? = some Q) (ho : ovrR R Q = false) : In3 w0 g Rs n p R B v0 v1 vi vm v4 (q + 1) w :=
 ⟨h.set, h.row, h.hs, h.he, h.net, h.mask, fun y P h1 h2 hP => by
  by_cases e : y = p + 1 + q
  ·subst e; rw [hQ] at hP; cases hP; exact ho
  ·exact h.none y P h1 (by omega) hP⟩
theorem zdI (C g n cap : Nat) (Rs : List RIn) (w : World) (hC : w.cell? ⟨C, 0, none⟩ = some (.slice (some ⟨g, 0, none⟩) n cap)) (hCg : C ≠ g) (hn : n = Rs.length) (hcap : n ≤ cap) (hm : cap ≤ 9223372036854775807) (h : SetM w g Rs 0 w) (hk : ∀ (i : Nat) (R : RIn), Rs[i]? = some R → ROk R) :
  Calls Tryz.prog 63 #[.pointer (some ⟨C, 0, none⟩)] w (zgB w g Rs) := by
 have HM := Lib.hid h
 have HK := Lib.hid hk
 have HCG := Lib.hid hCg
 have HC := Lib.hid hC
 have HN := Lib.hid hn
 have hCl : C < w.heap.size := World.block_lt_of_cell? w _ hC
 clear h hk hCg hn
 by_cases h0 : n = 0
 ·subst h0
  have HR := Lib.hid (show implB Rs = false from by
   cases Rs with
   | nil => rfl
   | cons P l => have := HN.out; simp at this)
  go_enter Tryz.func63, Tryz.ntmps63
  go_wp2_with fail
  refine (newError_any _ _).mono ?_
  rintro e w1 ⟨rfl, hb⟩
  have HB := Lib.hid hb
  clear hb
  go_wp2_with fail
  go_ret
  exact .inr ⟨HR.out, ⟨_, rfl⟩, HM.out.grown.andThen (row' := none) ⟨HB.out.os, HB.out.tape, HB.out.output, HB.out.size, fun k hk _ => HB.out.block k hk⟩ (fun j hj => by cases hj)⟩
 have t0 : ((n : Int) == 0) = false := by rw [beq_eq_false_iff_ne]; omega
 obtain ⟨R0, hR0⟩ : ∃ R0, Rs[0]? = some R0 := ⟨_, List.getElem?_eq_getElem (by have := HN.out; omega)⟩
 have HR0 := Lib.hid hR0
 clear hR0
 go_enter Tryz.func63, Tryz.ntmps63
 go_wp2_with fail
 go_loopw [3, 21] (fun fam i wr => ∃ k : Nat, i = .int .i64 k ∧ k ≤ n ∧ Hid (Loop1 w g Rs R0 k fam wr)) (fun _ i _ => n - (intOf i).toNat)
 case atStart => exact ⟨0, rfl, by omega, Lib.hid ⟨HM.out, fun i R hi => absurd hi (by omega), rfl⟩⟩
 case round =>
  obtain ⟨k, rfl, hkn, hr⟩ := hrel
  have hcC : wr.cell? ⟨C, 0, none⟩ = some (.slice (some ⟨g, 0, none⟩) n cap) := hr.out.set.grown.cell HC.out (fun e => HCG.out (Option.some.inj e))
  by_cases hlt : k < n
  ·have tk : decide ((k : Int) < n) = true := decide_eq_true (by omega)
   obtain ⟨R, hR⟩ : ∃ R, Rs[k]? = some R := ⟨_, List.getElem?_eq_getElem (by have := HN.out; omega)⟩
   have HR := Lib.hid hR
   clear hR
   go_wp2_with fail
   refine (hr.out.set.call HR.out (HK.out k R HR.out)).mono ?_
   rintro e w2 (⟨hok, rfl, hs⟩ | ⟨hok, ⟨b, rfl⟩, hg⟩)
   rotate_left
   ·have HG := Lib.hid (And.intro (zhM HR.out hok) hg)
    clear hok hg
    go_wp2_with fail
    go_ret
    exact .inr ⟨HG.out.1, ⟨_, rfl⟩, HG.out.2⟩
   ·have HS := Lib.hid hs
    have HOK := Lib.hid hok
    obtain ⟨v0, v1, vi, vm, v4, ha, hb0, _⟩ := hs.held k R (by omega) HR.out
    obtain ⟨bs, os, cs, rfl, _⟩ := BriefAt.out hb0
    have c0 : w2.cell? ⟨g, k * 5, none⟩ = some (.slice (some ⟨bs, os, none⟩) (zB R).width cs) := ha.c0
    have hcC2 : w2.cell? ⟨C, 0, none⟩ = some (.slice (some ⟨g, 0, none⟩) n cap) := hs.grown.cell HC.out (fun e => HCG.out (Option.some.inj e))
    have gz : g < w2.heap.size := hs.lt
    clear hs hok ha hb0 hcC
    by_cases hk0 : k = 0
    ·have tz : ((k : Int) == 0) = true := by rw [hk0]; rfl
     have HK0 := Lib.hid hk0
     have hRR : R = R0 := by have h1 := HR.out; rw [hk0, HR0.out] at h1; exact (Option.some.inj h1).symm
     have HN1 := Lib.hid (show Loop1 w g Rs R0 (k + 1) (.int .i64 ((zB R).width : Nat)) w2 from
      ⟨HS.out, fun i Q hi hq => by
       obtain rfl : i = k := by have := HK0.out; omega
       rw [HR.out] at hq
       cases hq
       exact ⟨HOK.out, by rw [hRR]⟩, by rw [hRR]; simp⟩)
     clear hk0 hRR
     go_wp2_with fail
     go_roundw
     case rel => exact ⟨k + 1, by simp, by omega, HN1⟩
     case measure => simp [intOf]; omega
    ·have tz : ((k : Int) == 0) = false := by rw [beq_eq_false_iff_ne]; omega
     have hfam : u3 = .int .i64 ((zB R0).width : Nat) := by have := hr.out.fam; rw [if_neg hk0] at this; exact this
     subst hfam
     by_cases hw : (zB R0).width = (zB R).width
     ·have tw : (((zB R0).width : Int) != ((zB R).width : Int)) = false := by rw [hw]; simp
      have HN1 := Lib.hid (show Loop1 w g Rs R0 (k + 1) (.int .i64 ((zB R0).width : Nat)) w2 from
       ⟨HS.out, fun i Q hi hq => by
        by_cases e : i = k
        ·subst e
         rw [HR.out] at hq
         cases hq
         exact ⟨HOK.out, hw⟩
        ·exact hr.out.good i Q (by omega) hq, by simp⟩)
      clear hw
      go_wp2_with fail
      go_roundw
      case rel => exact ⟨k + 1, by simp, by omega, HN1⟩
      case measure => simp [intOf]; omega
     ·have tw : (((zB R0).width : Int) != ((zB R).width : Int)) = true := by rw [bne_iff_ne]; omega
      have HG := Lib.hid (And.intro (zfY HR0.out HR.out hw) HS.out.grown)
      clear hw
      go_wp2_with fail
      refine (newError_any _ _).mono ?_
      rintro e w3 ⟨rfl, hb⟩
      have HB := Lib.hid hb
      clear hb
      go_wp2_with fail
      go_ret
      exact .inr ⟨HG.out.1, ⟨_, rfl⟩, HG.out.2.andThen (row' := none) ⟨HB.out.os, HB.out.tape, HB.out.output, HB.out.size, fun k hk _ => HB.out.block k hk⟩ (fun j hj => by cases hj)⟩
  ·have tk : decide ((k : Int) < n) = false := decide_eq_false (by omega)
   obtain rfl : k = n := by omega
   have HS := Lib.hid hr.out.set
   have HG := Lib.hid hr.out.good
   clear hr hlt tk hkn
   go_wp2_with fail
   go_loopw [66] (fun i wx => ∃ p : Nat, i = .int .i64 p ∧ p + 1 ≤ k ∧ Hid (SetM w g Rs k wx ∧ ∀ (x y : Nat) (P Q : RIn), x < p → x < y → Rs[x]? = some P → Rs[y]? = some Q → ovrR P Q = false)) (fun i _ => k - (intOf i).toNat)
   case atStart => exact ⟨0, rfl, by omega, Lib.hid ⟨HS.out, fun x y P Q hx => absurd hx (by omega)⟩⟩
   case round =>
    obtain ⟨p, rfl, hp, hl⟩ := hrel
    have hcC2 : wr.cell? ⟨C, 0, none⟩ = some (.slice (some ⟨g, 0, none⟩) k cap) := hl.out.1.grown.cell HC.out (fun e => HCG.out (Option.some.inj e))
    have gz : g < wr.heap.size := hl.out.1.lt
    have hCw : C < wr.heap.size := World.block_lt_of_cell? wr _ hcC2
    by_cases hpk : p < k - 1
    rotate_left
    ·have tp : decide ((p : Int) < ((k - 1 : Nat) : Int)) = false := decide_eq_false (by omega)
     have HF := Lib.hid (show implB Rs = true from zgA HR0.out (fun i Q hq => HG.out i Q (by have := (List.getElem?_eq_some_iff.1 hq).1; have := HN.out; omega) hq) (fun x y P Q hxy hx hy => hl.out.2 x y P Q (by have := (List.getElem?_eq_some_iff.1 hy).1; have := HN.out; omega) hxy hx hy))
     go_wp2_with fail
     go_ret
     exact .inl ⟨HF.out, rfl, by rw [← HN.out]; exact hl.out.1⟩
    ·have tp : decide ((p : Int) < ((k - 1 : Nat) : Int)) = true := decide_eq_true (by omega)
     obtain ⟨R, hR⟩ : ∃ R, Rs[p]? = some R := ⟨_, List.getElem?_eq_getElem (by have := HN.out; omega)⟩
     have HR := Lib.hid hR
     obtain ⟨v0, v1, vi, vm, v4, ha, hb0, hb1, hb4, hbi, hbm⟩ := hl.out.1.held p R (by omega) hR
     have HEL := Lib.hid (And.intro hb0 (And.intro hb1 (And.intro hb4 (And.intro hbi hbm))))
     obtain ⟨b0, o0, k0, rfl, _⟩ := BriefAt.out hb0
     obtain ⟨b1, o1, k1, rfl, _⟩ := BriefAt.out hb1
     obtain ⟨b4, o4, k4, rfl, _⟩ := BriefAt.out hb4
     obtain ⟨bi, oi, ki, rfl, _⟩ := BriefAt.out hbi
     obtain ⟨bm, om, km, rfl, _⟩ := IPAt.out hbm
     obtain ⟨c0, c1, c2, c3, c4⟩ := ha
     clear hR hb0 hb1 hb4 hbi hbm
     go_wp2_with fail
     have hbA : Below wr.heap.size wr (wr.alloc (.cells #[(.slice (some ⟨b0, o0, none⟩) (zB R).width k0), (.slice (some ⟨b1, o1, none⟩) (zC R).width k1), (.slice (some ⟨bi, oi, none⟩) R.a.width ki), (.slice (some ⟨bm, om, none⟩) (R.a.mask R.free).length km), (.slice (some ⟨b4, o4, none⟩) (zE R).width k4)] 72)) := (Below.refl _ _).alloc (Nat.le_refl _) _
     have HIN := Lib.hid (show In3 w g Rs k p R wr.heap.size (.slice (some ⟨b0, o0, none⟩) (zB R).width k0) (.slice (some ⟨b1, o1, none⟩) (zC R).width k1) (.slice (some ⟨bi, oi, none⟩) R.a.width ki) (.slice (some ⟨bm, om, none⟩) (R.a.mask R.free).length km) (.slice (some ⟨b4, o4, none⟩) (zE R).width k4) 0 (wr.alloc (.cells #[(.slice (some ⟨b0, o0, none⟩) (zB R).width k0), (.slice (some ⟨b1, o1, none⟩) (zC R).width k1), (.slice (some ⟨bi, oi, none⟩) R.a.width ki), (.slice (some ⟨bm, om, none⟩) (R.a.mask R.free).length km), (.slice (some ⟨b4, o4, none⟩) (zE R).width k4)] 72)) from
      ⟨hl.out.1.on hbA, heap_alloc_new wr _, BriefAt.keep HEL.out.1 hbA, BriefAt.keep HEL.out.2.1 hbA, BriefAt.keep HEL.out.2.2.2.1 hbA, IPAt.keep HEL.out.2.2.2.2 hbA, fun y Q h1 h2 => absurd h2 (by omega)⟩)
     clear hbA
     go_loopw [78] (fun j wx => ∃ q : Nat, j = .int .i64 q ∧ p + 1 + q ≤ k ∧ Hid (In3 w g Rs k p R wr.heap.size (.slice (some ⟨b0, o0, none⟩) (zB R).width k0) (.slice (some ⟨b1, o1, none⟩) (zC R).width k1) (.slice (some ⟨bi, oi, none⟩) R.a.width ki) (.slice (some ⟨bm, om, none⟩) (R.a.mask R.free).length km) (.slice (some ⟨b4, o4, none⟩) (zE R).width k4) q wx)) (fun j _ => k - (intOf j).toNat)
     case atStart => exact ⟨0, rfl, by omega, HIN⟩
     case round =>
      obtain ⟨q, rfl, hq, hi⟩ := hrel
      have hrow := hi.out.row
      have hcC3 : wr.cell? ⟨C, 0, none⟩ = some (.slice (some ⟨g, 0, none⟩) k cap) := hi.out.set.grown.cell HC.out (fun e => HCG.out (Option.some.inj e))
      have hCw3 : C < wr.heap.size := World.block_lt_of_cell? wr _ hcC3
      have gz3 : g < wr.heap.size := hi.out.set.lt
      by_cases hqk : q < k - (p + 1)
      rotate_left
      ·have tq : decide ((q : Int) < ((k - (p + 1) : Nat) : Int)) = false := decide_eq_false (by omega)
       have HN1 := Lib.hid (show SetM w g Rs k wr ∧ ∀ (x y : Nat) (P Q : RIn), x < p + 1 → x < y → Rs[x]? = some P → Rs[y]? = some Q → ovrR P Q = false from
        ⟨hi.out.set, fun x y P Q hx hxy hP hQ => by
         by_cases e : x = p
         ·subst e
          rw [HR.out] at hP
          cases hP
          exact hi.out.none y Q hxy (by have := (List.getElem?_eq_some_iff.1 hQ).1; have := HN.out; omega) hQ
         ·exact hl.out.2 x y P Q (by omega) hxy hP hQ⟩)
       clear hrow
       go_wp2_with fail
       go_roundw
       case rel => exact ⟨p + 1, by simp, by omega, HN1⟩
       case measure => simp [intOf]; omega
      ·have tq : decide ((q : Int) < ((k - (p + 1) : Nat) : Int)) = true := decide_eq_true (by omega)
       obtain ⟨Q, hQ⟩ : ∃ Q, Rs[p + 1 + q]? = some Q := ⟨_, List.getElem?_eq_getElem (by have := HN.out; omega)⟩
       have HQ := Lib.hid hQ
       obtain ⟨u0, u1, ui, um, u4, ha, hb0, hb1, hb4, hbi, hbm⟩ := hi.out.set.held (p + 1 + q) Q (by omega) hQ
       have HEQ := Lib.hid (And.intro hb0 (And.intro hb1 (And.intro hbi hbm)))
       obtain ⟨d0, e0, l0, rfl, _⟩ := BriefAt.out hb0
       obtain ⟨d1, e1, l1, rfl, _⟩ := BriefAt.out hb1
       obtain ⟨d4, e4, l4, rfl, _⟩ := BriefAt.out hb4
       obtain ⟨di, ei, li, rfl, _⟩ := BriefAt.out hbi
       obtain ⟨dm, em, lm, rfl, _⟩ := IPAt.out hbm
       obtain ⟨x0, x1, x2, x3, x4⟩ := ha
       rw [show (p + 1 + q) * 5 = (p + 1) * 5 + q * 5 by omega] at x0 x1 x2 x3 x4
       have HROW := Lib.hid hrow
       clear hQ hb0 hb1 hb4 hbi hbm hrow
       have hokR := (HG.out p R (by omega) HR.out).1
       have hokQ := (HG.out (p + 1 + q) Q (by omega) HQ.out).1
       have hrk := HK.out p R HR.out
       have hqk2 := HK.out (p + 1 + q) Q HQ.out
       have co := yB hrk.oa hrk.room hrk.k1 hrk.k2 hokR
       have cq := yB hqk2.oa hqk2.room hqk2.k1 hqk2.k2 hokQ
       obtain ⟨ov, hov⟩ : ∃ b : Bool, b = ovrR R Q := ⟨_, rfl⟩
       have hbA : Below wr.heap.size wr (wr.alloc (.cells #[(.slice (some ⟨d0, e0, none⟩) (zB Q).width l0), (.slice (some ⟨d1, e1, none⟩) (zC Q).width l1), (.slice (some ⟨di, ei, none⟩) Q.a.width li), (.slice (some ⟨dm, em, none⟩) (Q.a.mask Q.free).length lm), (.slice (some ⟨d4, e4, none⟩) (zE Q).width l4)] 72)) := (Below.refl _ _).alloc (Nat.le_refl _) _
       have hr1 := row_on hbA HROW.out
       have hr2 := heap_alloc_new wr (.cells #[(.slice (some ⟨d0, e0, none⟩) (zB Q).width l0), (.slice (some ⟨d1, e1, none⟩) (zC Q).width l1), (.slice (some ⟨di, ei, none⟩) Q.a.width li), (.slice (some ⟨dm, em, none⟩) (Q.a.mask Q.free).length lm), (.slice (some ⟨d4, e4, none⟩) (zE Q).width l4)] 72)
       have HOV := Lib.hid (overlaps_any _ 0 wr.heap.size 0 _ _ _ _ _ _ _ _ _ _ R.a Q.a R.free Q.free (zB R) (zC R) (zB Q) (zC Q) (wr.alloc (.cells #[(.slice (some ⟨d0, e0, none⟩) (zB Q).width l0), (.slice (some ⟨d1, e1, none⟩) (zC Q).width l1), (.slice (some ⟨di, ei, none⟩) Q.a.width li), (.slice (some ⟨dm, em, none⟩) (Q.a.mask Q.free).length lm), (.slice (some ⟨d4, e4, none⟩) (zE Q).width l4)] 72))
        ⟨⟨cell_of_row _ _ 0 _ _ _ hr1, cell_of_row _ _ 1 _ _ _ hr1, cell_of_row _ _ 2 _ _ _ hr1, cell_of_row _ _ 3 _ _ _ hr1, cell_of_row _ _ 4 _ _ _ hr1⟩, BriefAt.keep hi.out.hs hbA, BriefAt.keep hi.out.he hbA, BriefAt.keep hi.out.net hbA, IPAt.keep hi.out.mask hbA, hrk.oa, co.1, co.2, hrk.room⟩
        ⟨⟨cell_of_row _ _ 0 _ _ _ hr2, cell_of_row _ _ 1 _ _ _ hr2, cell_of_row _ _ 2 _ _ _ hr2, cell_of_row _ _ 3 _ _ _ hr2, cell_of_row _ _ 4 _ _ _ hr2⟩, BriefAt.keep HEQ.out.1 hbA, BriefAt.keep HEQ.out.2.1 hbA, BriefAt.keep HEQ.out.2.2.1 hbA, IPAt.keep HEQ.out.2.2.2 hbA, hqk2.oa, cq.1, cq.2, hqk2.room⟩)
       have HON := Lib.hid hov
       have HBA := Lib.hid hbA
       change Hid (Calls _ _ _ _ (BelowPost _ (.bool (ovrR R Q)))) at HOV
       rw [← hov] at HOV
       clear hokR hokQ hrk hqk2 co cq hr1 hr2 hov hbA
       go_wp2_with fail
       refine HOV.out.mono ?_
       rintro e w3 ⟨rfl, hb3⟩
       have HS3 := Lib.hid (hi.out.on (below_tr HBA.out hb3))
       clear hb3 x0 x1 x2 x3 x4
       cases ov with
       | true =>
        have HF := Lib.hid (show implB Rs = false from zfZ HR.out HQ.out (by omega) HON.out.symm)
        go_wp2_with fail
        refine (newError_any _ _).mono ?_
        rintro e w4 ⟨rfl, hb⟩
        have HB := Lib.hid hb
        clear hb
        go_wp2_with fail
        go_ret
        exact .inr ⟨HF.out, ⟨_, rfl⟩, HS3.out.set.grown.andThen (row' := none) ⟨HB.out.os, HB.out.tape, HB.out.output, HB.out.size, fun k hk _ => HB.out.block k hk⟩ (fun j hj => by cases hj)⟩
       | false =>
        have HN1 := Lib.hid (HS3.out.next (show Rs[p + 1 + q]? = some Q from HQ.out) HON.out.symm)
        go_wp2_with fail
        go_roundw
        case rel => exact ⟨q + 1, by simp, by omega, HN1⟩
        case measure => simp [intOf]; omega
theorem zgC (args : Array Value) (w : World) : (callFunc 62 args).run Tryz.prog w = .ok (.enter 62 args) w := by kernel_rfl
structure SetIn (w : World) (C g n cap : Nat) (Rs : List RIn) : Prop where
 row : w.heap[C]? = some (.cells #[.slice (some ⟨g, 0, none⟩) n cap] 89 (0, 0))
 ne : C ≠ g
 len : n = Rs.length
 le : n ≤ cap
 most : cap ≤ 9223372036854775807
 set : SetM w g Rs 0 w
 ok : ∀ (i : Nat) (R : RIn), Rs[i]? = some R → ROk R
theorem SetM.fresh {w0 w w' : World} {g k : Nat} {Rs : List RIn} (h : SetM w0 g Rs k w) (hb : Below w.heap.size w w') : SetM w' g Rs k w' :=
 let h' := h.on hb
 ⟨h'.nb, h'.fz, h'.pre, h'.held, World.grownBy.refl _ _, h'.lt⟩
theorem SetIn.on {w w' : World} {C g n cap : Nat} {Rs : List RIn} (h : SetIn w C g n cap Rs) (hb : Below w.heap.size w w') : SetIn w' C g n cap Rs :=
 ⟨row_on hb h.row, h.ne, h.len, h.le, h.most, h.set.fresh hb, h.ok⟩
def Set1 (w : World) (g D : Nat) (Rs : List RIn) (w' : World) : Prop := ∃ w1, (w.grownBy w1 (some g) ∧ (implB Rs = true → SetM w g Rs Rs.length w1)) ∧ w' = w1.setCell ⟨D, 0, none⟩ (.bool (implB Rs))
theorem zjS (C g n cap D : Nat) (Rs : List RIn) (w : World) (h : SetIn w C g n cap Rs) (hD : w.heap[D]? = some (.cells #[.bool true] 4 (0, 0))) (hDg : D ≠ g) :
  Calls Tryz.prog 62 #[.pointer (some ⟨C, 0, none⟩), .pointer (some ⟨D, 0, none⟩)] w (fun e w' => e = .returned (.tuple #[]) ∧ Set1 w g D Rs w') := by
 have HR := Lib.hid (zdI C g n cap Rs w (cell_of_row w C 0 _ _ _ h.row) h.ne h.len h.le h.most h.set h.ok)
 have HD := Lib.hid hD
 have HDG := Lib.hid hDg
 clear h hD hDg
 go_enter Tryz.func62, Tryz.ntmps62
 go_wp2_with fail
 refine HR.out.mono ?_
 rintro e w1 hpost
 have hg : w.grownBy w1 (some g) := by
  rcases hpost with ⟨_, _, hs⟩ | ⟨_, _, hs⟩
  ·exact hs.grown
  ·exact hs
 have hrow : w1.heap[D]? = some (.cells #[.bool true] 4 (0, 0)) := by
  rw [hg.block D (Array.getElem?_eq_some_iff.1 HD.out).1 (fun e => HDG.out (by simpa using e))]
  exact HD.out
 have cD := cell_of_row w1 D 0 _ _ _ hrow
 have zD := frozen_of_row w1 D 0 _ _ hrow
 have HG := Lib.hid hg
 clear hrow hg
 rcases hpost with ⟨hok, rfl, hs⟩ | ⟨hok, ⟨b, rfl⟩, hs⟩
 ·have HO := Lib.hid (And.intro hok hs)
  clear hok hs
  go_wp2_with fail
  go_end0
  exact ⟨rfl, w1, ⟨HG.out, fun _ => HO.out.2⟩, by rw [HO.out.1]⟩
 ·have HO := Lib.hid hok
  clear hok hs
  go_wp2_with fail
  go_end0
  exact ⟨rfl, w1, ⟨HG.out, fun h => absurd (h.symm.trans HO.out) (by decide)⟩, by rw [HO.out]⟩
def zmQ (w : World) (C g n cap D : Nat) (Rs : List RIn) (e : Ending) (w' : World) : Prop :=
 e = .returned (.bool true) ∧ w'.cell? ⟨D, 0, none⟩ = some (.bool (implB Rs)) ∧ w'.cell? ⟨C, 0, none⟩ = some (.slice (some ⟨g, 0, none⟩) n cap) ∧ ∀ w0 : World, Below w0.heap.size w0 w → w0.heap.size ≤ g → w0.heap.size ≤ D → Below w0.heap.size w0 w'
end Go.Proofs.YtnehofekgnbelaaGreatDoor

/-
  Texts put together: PlainR, Rg
-/
import Derived.Test.YtnehofekgnbelaaGreatDoorY27
import Derived.Test.YtnehofekgnbelaaGreatDoorY26
namespace Go.Proofs.YtnehofekgnbelaaGreatDoor
open Go.RowKit
set_option linter.unusedVariables false
theorem zmN {a b : Ad} {free : Nat} (hn : a.net free = a) : (a.six = b.six ∧ a.net free = b.net free) ↔ (b.six = a.six ∧ a.n ≤ b.n ∧ b.n ≤ (a.last free).n) := by
 have hq : 0 < 2 ^ free := Nat.pow_pos (by decide)
 have ha : a.n / 2 ^ free * 2 ^ free = a.n := congrArg Ad.n hn
 have hl : (a.last free).n = a.n + (2 ^ free - 1) := by show a.n / 2 ^ free * 2 ^ free + _ = _; rw [ha]
 rw [hl, hn]
 constructor
 ·rintro ⟨h6, hb⟩
  have hb' : a.n = b.n / 2 ^ free * 2 ^ free := congrArg Ad.n hb
  have h1 := Nat.div_add_mod b.n (2 ^ free)
  have h2 := Nat.mod_lt b.n hq
  rw [Nat.mul_comm, ← hb'] at h1
  exact ⟨h6.symm, by omega, by omega⟩
 ·rintro ⟨h6, h1, h2⟩
  refine ⟨h6.symm, ?_⟩
  have hd : b.n / 2 ^ free = a.n / 2 ^ free := Nat.div_eq_of_lt_le (by rw [ha]; exact h1) (by rw [Nat.succ_mul, ha]; omega)
  show a = ⟨b.six, b.n / 2 ^ free * 2 ^ free⟩
  rw [hd, ha, h6]
theorem zmO {a b : Ad} (h : a.six = b.six) : 0 ≤ a.cmp b ↔ b.n ≤ a.n := by
 unfold Ad.cmp cmpN
 rw [if_pos h]
 split
 ·omega
 ·split <;> omega
theorem zmP {a b : Ad} (h : a.six = b.six) : a.cmp b ≤ 0 ↔ a.n ≤ b.n := by
 unfold Ad.cmp cmpN
 rw [if_pos h]
 split
 ·omega
 ·split <;> omega
theorem zaX {a : Ad} {free : Nat} {o1 o2 : Option Ad} {b : Ad} (hn : a.net free = a) : cont a free o1 o2 b = true ↔ (b.six = a.six ∧ a.n ≤ b.n ∧ b.n ≤ (a.last free).n) ∧ startOK o1 b = true ∧ endOK o2 b = true := by
 rw [← zmN hn]
 unfold cont
 simp only [Bool.and_eq_true, decide_eq_true_eq]
 constructor
 ·rintro ⟨⟨⟨h1, h2⟩, h3⟩, h4⟩; exact ⟨⟨h1, h2⟩, h3, h4⟩
 ·rintro ⟨⟨h1, h2⟩, h3, h4⟩; exact ⟨⟨⟨h1, h2⟩, h3⟩, h4⟩
theorem yG {s b : Ad} (h : b.six = s.six) : startOK (some s) b = true ↔ s.n ≤ b.n := by
 unfold startOK; rw [decide_eq_true_eq]; exact zmO h
theorem zbJ {s b : Ad} (h : b.six = s.six) : endOK (some s) b = true ↔ b.n ≤ s.n := by
 unfold endOK; rw [decide_eq_true_eq]; exact zmP h
theorem zaY {net st en b : Ad} : hasB net st en b = true ↔ b.six = net.six ∧ st.n ≤ b.n ∧ b.n ≤ en.n := by
 unfold hasB
 simp only [Bool.and_eq_true, decide_eq_true_eq, beq_iff_eq, and_assoc]
theorem zhE {a : Ad} {free : Nat} {o1 o2 : Option Ad} (h2 : 2 ≤ free) (hn : a.net free = a) (hg : a.six = false → o2 = none → ∀ s, o1 = some s → s ≠ a.last free) :
  canonP a free o1 o2 = (hasB a a (a.last free) (o1.getD a.up) && hasB a a (a.last free) (o2.getD (a.endOf free)) && decide ((o1.getD a.up).n ≤ (o2.getD (a.endOf free)).n)) := by
 have hq : 2 ^ 2 ≤ 2 ^ free := Nat.pow_le_pow_right (by decide) h2
 have hl : (a.last free).n = a.n + (2 ^ free - 1) := by
  have ha : a.n / 2 ^ free * 2 ^ free = a.n := congrArg Ad.n hn
  show a.n / 2 ^ free * 2 ^ free + _ = _; rw [ha]
 have u6 : a.up.six = a.six := rfl
 have un : a.up.n = a.n + 1 := rfl
 have e6 : (a.endOf free).six = a.six := by unfold Ad.endOf; split <;> rfl
 have en : (a.endOf free).n = if a.six then (a.last free).n else (a.last free).n - 1 := by unfold Ad.endOf; split <;> rfl
 rw [Bool.eq_iff_iff]
 unfold canonP
 simp only [decide_eq_true h2, decide_eq_true hn, Bool.true_and, Bool.and_eq_true, zaY, decide_eq_true_eq]
 cases o1 with
 | none =>
  cases o2 with
  | none =>
   simp only [Option.getD_none, u6, un, e6, en, true_and, and_true]
   constructor
   ·intro _
    split <;> omega
   ·intro _; trivial
  | some e =>
   simp only [Option.getD_none, Option.getD_some, u6, un, true_and, zaX hn]
   constructor
   ·rintro ⟨⟨h6, h3, h4⟩, h5, h7⟩
    rw [yG (by rw [h6, u6]), un] at h5
    exact ⟨⟨by omega, h6, h3, h4⟩, h5⟩
   ·rintro ⟨⟨_, h6, h3, h4⟩, h5⟩
    refine ⟨⟨h6, h3, h4⟩, ?_, ?_⟩
    ·rw [yG (by rw [h6, u6]), un]; exact h5
    ·rw [zbJ rfl]; exact Nat.le_refl _
 | some s =>
  cases o2 with
  | none =>
   simp only [Option.getD_none, Option.getD_some, e6, en, true_and, and_true, zaX hn]
   constructor
   ·rintro ⟨⟨h6, h3, h4⟩, _, _⟩
    have hne : a.six = false → s.n ≠ (a.last free).n := fun h0 h8 => hg h0 rfl s rfl (by
     have : s = ⟨s.six, s.n⟩ := rfl
     rw [this, h6, h8]; rfl)
    cases hx : a.six with
    | true => simp [hx] at h6 ⊢; exact ⟨⟨⟨h6, h3, h4⟩, by omega⟩, h4⟩
    | false => simp [hx] at h6 ⊢; have := hne hx; refine ⟨⟨⟨h6, h3, h4⟩, ?_⟩, ?_⟩ <;> omega
   ·rintro ⟨⟨⟨h6, h3, h4⟩, _⟩, _⟩
    refine ⟨⟨h6, h3, h4⟩, ?_, rfl⟩
    rw [yG rfl]; exact Nat.le_refl _
  | some e =>
   simp only [Option.getD_some, zaX hn]
   constructor
   ·rintro ⟨⟨⟨h6, h3, h4⟩, h5, h7⟩, ⟨k6, k3, k4⟩, k5, k7⟩
    rw [yG (by rw [k6, h6])] at k5
    exact ⟨⟨⟨h6, h3, h4⟩, k6, k3, k4⟩, k5⟩
   ·rintro ⟨⟨⟨h6, h3, h4⟩, k6, k3, k4⟩, k5⟩
    refine ⟨⟨⟨h6, h3, h4⟩, ?_, ?_⟩, ⟨k6, k3, k4⟩, ?_, ?_⟩
    ·rw [yG rfl]; exact Nat.le_refl _
    ·rw [zbJ (by rw [k6, h6])]; exact k5
    ·rw [yG (by rw [k6, h6])]; exact k5
    ·rw [zbJ rfl]; exact Nat.le_refl _
theorem zhF {a : Ad} {free : Nat} {o1 o2 : Option Ad} (h : canonP a free o1 o2 = true) : 2 ≤ free ∧ a.net free = a := by
 unfold canonP at h
 simp only [Bool.and_eq_true, decide_eq_true_eq] at h
 exact ⟨h.1.1.1, h.1.1.2⟩
theorem zhG {R : RIn} (h2 : 2 ≤ R.free) (hn : R.a.net R.free = R.a) (hg : yP R) :
  okR R = (hasB R.a R.a (R.a.last R.free) (zB R) && hasB R.a R.a (R.a.last R.free) (zC R) && decide ((zB R).n ≤ (zC R).n)) := by
 refine zhE h2 hn fun h6 h7 s hs => hg h6 h7 s hs ?_
 have ha : R.a.n / 2 ^ R.free * 2 ^ R.free = R.a.n := congrArg Ad.n hn
 rw [← ha]; exact Nat.mul_mod_left _ _
theorem zcC {R : RIn} (hg : yP R) (h : okR R = true) : R.a.net R.free = R.a ∧ (zB R).six = R.a.six ∧ R.a.n ≤ (zB R).n ∧ (zB R).n ≤ (zC R).n ∧ (zC R).n ≤ (R.a.last R.free).n ∧ (zC R).six = R.a.six := by
 obtain ⟨h2, hn⟩ := zhF h
 rw [zhG h2 hn hg] at h
 simp only [Bool.and_eq_true, zaY, decide_eq_true_eq] at h
 exact ⟨hn, h.1.1.1, h.1.1.2.1, h.2, h.1.2.2.2, h.1.2.1⟩
theorem xD {R : RIn} (hg : yP R) (h : okR R = true) (b : Ad) : contR R b = hasB R.a (zB R) (zC R) b := by
 obtain ⟨hn, h1, h3, h4, h5, h6⟩ := zcC hg h
 rw [Bool.eq_iff_iff, contR, zaX hn, zaY]
 constructor
 ·rintro ⟨⟨k6, _, _⟩, k1, k3⟩
  rw [yG (by rw [k6, h1])] at k1
  rw [zbJ (by rw [k6, h6])] at k3
  exact ⟨k6, k1, k3⟩
 ·rintro ⟨k6, k1, k3⟩
  rw [yG (by rw [k6, h1]), zbJ (by rw [k6, h6])]
  exact ⟨⟨k6, by omega, by omega⟩, k1, k3⟩
theorem zcP {R Q : RIn} (hg : yP R) (h : okR R = true) (hg' : yP Q) (h' : okR Q = true) : ovrR R Q = meetB R.a (zB R) (zC R) Q.a (zB Q) (zC Q) := by
 obtain ⟨hn, h1, h3, h4, h5, h6⟩ := zcC hg h
 obtain ⟨gn, g1, g3, g4, g5, g6⟩ := zcC hg' h'
 have e1 := xD hg h (zB Q)
 have e2 := xD hg h (zC Q)
 have e3 := xD hg' h' (zB R)
 have e4 := xD hg' h' (zC R)
 unfold contR at e1 e2 e3 e4
 unfold ovrR ovr
 rw [e1, e2, e3, e4, Bool.eq_iff_iff]
 unfold meetB
 simp only [Bool.and_eq_true, Bool.or_eq_true, zaY, decide_eq_true_eq, beq_iff_eq, h1, h6, g1, g6]
 have hw : (zB R).width = (zB Q).width ↔ R.a.six = Q.a.six := by
  unfold Ad.width
  rw [h1, g1]
  cases R.a.six <;> cases Q.a.six <;> simp
 rw [hw]
 constructor
 ·rintro ⟨k6, k⟩
  refine ⟨⟨k6, ?_⟩, ?_⟩ <;> omega
 ·rintro ⟨⟨k6, k1⟩, k3⟩
  refine ⟨k6, ?_⟩
  simp only [k6, true_and]
  omega
set_option maxRecDepth 100000
set_option maxHeartbeats 1000000
structure Tx where
 a : ByteArray
 b : ByteArray
 c : ByteArray
 d : ByteArray
def Tx.fits (x : Tx) : Prop := x.a.size ≤ 2147483647 ∧ x.b.size ≤ 2147483647 ∧ x.c.size ≤ 2147483647 ∧ x.d.size ≤ 2147483647
def RgsV (w : World) (ao : Option Addr) (xs : List Tx) : Prop :=
 ∀ (i : Nat) (x : Tx), xs[i]? = some x → ∃ b off, ao = some ⟨b, off, none⟩ ∧ b < w.heap.size ∧ w.cell? ⟨b, off + i * 4, none⟩ = some (.string x.a) ∧ w.cell? ⟨b, off + i * 4 + 1, none⟩ = some (.string x.b) ∧ w.cell? ⟨b, off + i * 4 + 2, none⟩ = some (.string x.c) ∧ w.cell? ⟨b, off + i * 4 + 3, none⟩ = some (.string x.d)
theorem RgsV.on {w w' : World} {ao : Option Addr} {xs : List Tx} (h : RgsV w ao xs) (hb : Below w.heap.size w w') : RgsV w' ao xs := by
 intro i x hx
 obtain ⟨b, off, e, hlt, c0, c1, c2, c3⟩ := h i x hx
 exact ⟨b, off, e, Nat.lt_of_lt_of_le hlt hb.size, (hb.cell hlt).trans c0, (hb.cell hlt).trans c1, (hb.cell hlt).trans c2, (hb.cell hlt).trans c3⟩
def zeL (w : World) (xs : List Tx) (e : Ending) (w' : World) : Prop :=
 ∃ ok : Bool, e = .returned (.bool ok) ∧ (ok = true → xs.length ≤ 2147483647 ∧ ∀ (j : Nat) (x : Tx), xs[j]? = some x → x.fits) ∧ Below w.heap.size w w'
theorem zhH (ao : Option Addr) (cap : Nat) (xs : List Tx) (w : World) (h : RgsV w ao xs) :
  Calls Tryz.prog 13 #[.slice ao xs.length cap] w (zeL w xs) := by
 have H := Lib.hid h
 clear h
 by_cases hn : xs.length ≤ 2147483647
 rotate_left
 ·have t0 : decide ((2147483647 : Int) < xs.length) = true := decide_eq_true (by omega)
  go_enter Tryz.func13, Tryz.ntmps13
  go_wp2_with fail
  go_ret
  exact ⟨false, rfl, (fun h => by cases h), Below.refl _ _⟩
 have t0 : decide ((2147483647 : Int) < xs.length) = false := decide_eq_false (by omega)
 go_enter Tryz.func13, Tryz.ntmps13
 go_wp2_with fail
 go_loopw [10] (fun i wr => ∃ k : Nat, i = .int .i64 k ∧ k ≤ xs.length ∧ Hid ((∀ (j : Nat) (x : Tx), j < k → xs[j]? = some x → x.fits) ∧ Below w.heap.size w wr)) (fun i _ => xs.length - (intOf i).toNat)
 case atStart => exact ⟨0, rfl, by omega, Lib.hid ⟨fun j x hj => absurd hj (by omega), Below.refl _ _⟩⟩
 case round =>
  obtain ⟨k, rfl, hk, hr⟩ := hrel
  by_cases hlt : k < xs.length
  ·have tk : decide ((k : Int) < xs.length) = true := decide_eq_true (by omega)
   have hx : xs[k]? = some xs[k] := List.getElem?_eq_getElem hlt
   obtain ⟨b, off, rfl, hbl, c0, c1, c2, c3⟩ := H.out.on hr.out.2 k _ hx
   have HX := Lib.hid hx
   clear hx
   generalize xs[k] = x at *
   go_wp2_with fail
   refine (zhD x.a x.b x.c x.d _).mono ?_
   rintro e w2 ⟨ok, rfl, hf, hb2⟩
   have HF := Lib.hid hf
   have HB := Lib.hid (below_tr (hr.out.2.alloc hr.out.2.size _) hb2)
   clear hf hb2 c0 c1 c2 c3
   cases ok with
   | false =>
    go_wp2_with fail
    go_ret
    exact ⟨false, rfl, (fun h => by cases h), HB.out⟩
   | true =>
    go_wp2_with fail
    go_roundw
    case rel =>
     refine ⟨k + 1, by simp, by omega, Lib.hid ⟨fun j y hj hy => ?_, HB.out⟩⟩
     by_cases hjk : j = k
     ·subst hjk
      rw [HX.out] at hy
      cases hy
      exact HF.out (by trivial)
     ·exact hr.out.1 j y (by omega) hy
    case measure => simp [intOf]; omega
  ·have tk : decide ((k : Int) < xs.length) = false := decide_eq_false (by omega)
   go_wp2_with fail
   go_ret
   exact ⟨true, rfl, (fun _ => ⟨hn, fun j x hx => hr.out.1 j x (by have := (List.getElem?_eq_some_iff.1 hx).1; omega) hx⟩), hr.out.2⟩
def TxR (x : Tx) (R : RIn) : Prop := RTexts x.a x.b x.c x.d R ∧ ROk R ∧ yP R ∧ numOK 128 (cutL 47 (bl x.a)).2.1 = true
def zjO (w : World) (xs : List Tx) (e : Ending) (w' : World) : Prop :=
 ∃ ok : Bool, e = .returned (.bool ok) ∧ (ok = true → xs.length ≤ 4 ∧ ∀ (j : Nat) (x : Tx), xs[j]? = some x → ∃ R, TxR x R) ∧ Below w.heap.size w w'
theorem zcQ (ao : Option Addr) (cap : Nat) (xs : List Tx) (w : World) (h : RgsV w ao xs) (hf : ∀ (j : Nat) (x : Tx), xs[j]? = some x → x.fits) (hn : xs.length ≤ 2147483647) :
  Calls Tryz.prog 32 #[.slice ao xs.length cap] w (zjO w xs) := by
 have H := Lib.hid h
 have HF := Lib.hid hf
 clear h hf
 go_enter Tryz.func32, Tryz.ntmps32
 go_wp2_with fail
 go_loopw [7] (fun i wr => ∃ k : Nat, i = .int .i64 k ∧ k ≤ xs.length ∧ Hid ((∀ (j : Nat) (x : Tx), j < k → xs[j]? = some x → ∃ R, TxR x R) ∧ Below w.heap.size w wr)) (fun i _ => xs.length - (intOf i).toNat)
 case atStart => exact ⟨0, rfl, by omega, Lib.hid ⟨fun j x hj => absurd hj (by omega), Below.refl _ _⟩⟩
 case round =>
  obtain ⟨k, rfl, hk, hr⟩ := hrel
  by_cases hlt : k < xs.length
  ·have tk : decide ((k : Int) < xs.length) = true := decide_eq_true (by omega)
   have hx : xs[k]? = some xs[k] := List.getElem?_eq_getElem hlt
   obtain ⟨b, off, rfl, hbl, c0, c1, c2, c3⟩ := H.out.on hr.out.2 k _ hx
   have HX := Lib.hid hx
   obtain ⟨z0, z1, z2, z3⟩ := HF.out k _ hx
   clear hx
   generalize xs[k] = x at *
   go_wp2_with fail
   refine (zeK x.a x.b x.c x.d _ z0 z1 z2 z3).mono ?_
   rintro e w2 ⟨ok, rfl, hq, hb2⟩
   have HQ := Lib.hid hq
   have HB := Lib.hid (below_tr (hr.out.2.alloc hr.out.2.size _) hb2)
   clear hq hb2 c0 c1 c2 c3
   cases ok with
   | false =>
    go_wp2_with fail
    go_ret
    exact ⟨false, rfl, (fun h => by cases h), HB.out⟩
   | true =>
    go_wp2_with fail
    go_roundw
    case rel =>
     refine ⟨k + 1, by simp, by omega, Lib.hid ⟨fun j y hj hy => ?_, HB.out⟩⟩
     by_cases hjk : j = k
     ·subst hjk
      rw [HX.out] at hy
      cases hy
      exact HQ.out (by trivial)
     ·exact hr.out.1 j y (by omega) hy
    case measure => simp [intOf]; omega
  ·have tk : decide ((k : Int) < xs.length) = false := decide_eq_false (by omega)
   by_cases h4 : xs.length ≤ 4
   ·have t4 : decide ((xs.length : Int) ≤ 4) = true := decide_eq_true (by omega)
    go_wp2_with fail
    go_ret
    exact ⟨true, rfl, (fun _ => ⟨h4, fun j x hx => hr.out.1 j x (by have := (List.getElem?_eq_some_iff.1 hx).1; omega) hx⟩), hr.out.2⟩
   ·have t4 : decide ((xs.length : Int) ≤ 4) = false := decide_eq_false (by omega)
    go_wp2_with fail
    go_ret
    exact ⟨false, rfl, (fun h => by cases h), hr.out.2⟩
end Go.Proofs.YtnehofekgnbelaaGreatDoor

/-
  The order of versions: GreaterThanOrEqualTo, GreaterThan, spec.Order, and the law FnGreater.
-/
import Derived.Test.YtjoemgniakcjlaaDoorVerLaw
namespace Go.Proofs.YtjoemgniakcjlaaDoor
open Go.RowKit
set_option linter.unusedVariables false

def ord3 (a b c x y z : Int) : Int := if a < x then -1 else if x < a then 1 else if b < y then -1 else if y < b then 1 else if c < z then -1 else if z < c then 1 else 0
/-- The text of a version, and its numbers. -/
def VerIs (s : ByteArray) (a b c : Int) : Prop := ∃ Q, verL (bl s) = some Q ∧ Q.getD 0 0 = a ∧ Q.getD 1 0 = b ∧ Q.getD 2 0 = c
theorem VerIs.of {s : ByteArray} {Q : List Int} (h : verL (bl s) = some Q) : VerIs s (Q.getD 0 0) (Q.getD 1 0) (Q.getD 2 0) := ⟨Q, h, rfl, rfl, rfl⟩
theorem VerIs.size {s : ByteArray} {a b c : Int} (h : VerIs s a b c) : s.size ≤ 20 := by
  obtain ⟨Q, h, _⟩ := h
  rw [← bl_length]
  exact verL_size h
def ParseP (a b c : Int) (w : World) (e : Ending) (w' : World) : Prop := e = .returned (.tuple #[.int .i64 a, .int .i64 b, .int .i64 c, .nilIface]) ∧ Below w.heap.size w w'
theorem parse_is (s : ByteArray) {a b c : Int} (w : World) (h : VerIs s a b c) : Calls Tryd.prog 15 #[.string s] w (ParseP a b c w) := by
  obtain ⟨Q, h, rfl, rfl, rfl⟩ := h
  exact parse_ok s Q w h
def ordL (Q R : List Int) : Int := ord3 (Q.getD 0 0) (Q.getD 1 0) (Q.getD 2 0) (R.getD 0 0) (R.getD 1 0) (R.getD 2 0)
def CmpPost (b : Bool) (w : World) (e : Ending) (w' : World) : Prop := e = .returned (.tuple #[.bool b, .nilIface]) ∧ Below w.heap.size w w'
theorem ret_cmp {a b : Bool} {v : Value} (h : a = b) : Ending.returned (.tuple #[.bool a, v]) = .returned (.tuple #[.bool b, v]) := by rw [h]

set_option maxHeartbeats 2000000 in
set_option maxRecDepth 100000 in
theorem geq_ok (s t : ByteArray) (a b c x y z : Int) (w : World) (hq : VerIs s a b c) (hr : VerIs t x y z) :
    Calls Tryd.prog 16 #[.string s, .string t] w (CmpPost (decide (0 ≤ ord3 a b c x y z)) w) := by
  have HQ := Lib.hid hq
  have HR := Lib.hid hr
  clear hq hr
  go_enter Tryd.func16, Tryd.ntmps16
  go_wp2_with fail
  refine (parse_is s _ HQ.out).mono ?_
  rintro e w1 ⟨rfl, hb1⟩
  go_wp2_with fail
  refine (parse_is t _ HR.out).mono ?_
  rintro e w2 ⟨rfl, hb2⟩
  have hfin := below_tr hb1 hb2
  have HF := Lib.hid hfin
  clear hb1 hb2 hfin
  rcases Int.lt_trichotomy a x with h | rfl | h
  · have t1 : decide (x < a) = false := by simp; omega
    have t2 : (a == x) = false := beq_eq_false_iff_ne.2 (by omega)
    go_wp2_with fail
    go_ret2
    exact ⟨ret_cmp (by rw [show ord3 a b c x y z = (-1) from by unfold ord3; repeat' split <;> omega]; rfl), HF.out⟩
  · rcases Int.lt_trichotomy b y with h | rfl | h
    · have t1 : decide (y < b) = false := by simp; omega
      have t2 : (b == y) = false := beq_eq_false_iff_ne.2 (by omega)
      go_wp2_with fail
      go_ret2
      exact ⟨ret_cmp (by rw [show ord3 a b c a y z = (-1) from by unfold ord3; repeat' split <;> omega]; rfl), HF.out⟩
    · rcases Int.lt_trichotomy c z with h | rfl | h
      · have t1 : decide (z < c) = false := by simp; omega
        have t2 : decide (z ≤ c) = false := by simp; omega
        go_wp2_with fail
        go_ret2
        exact ⟨ret_cmp (by rw [show ord3 a b c a b z = (-1) from by unfold ord3; repeat' split <;> omega]; rfl), HF.out⟩
      · go_wp2_with fail
        go_ret2
        exact ⟨ret_cmp (by rw [show ord3 a b c a b c = 0 from by unfold ord3; repeat' split <;> omega]; rfl), HF.out⟩
      · have t1 : decide (z < c) = true := by simp; omega
        have t2 : decide (z ≤ c) = true := by simp; omega
        go_wp2_with fail
        go_ret2
        exact ⟨ret_cmp (by rw [show ord3 a b c a b z = (1) from by unfold ord3; repeat' split <;> omega]; rfl), HF.out⟩
    · go_wp2_with fail
      go_ret2
      exact ⟨ret_cmp (by rw [show ord3 a b c a y z = (1) from by unfold ord3; repeat' split <;> omega]; rfl), HF.out⟩
  · go_wp2_with fail
    go_ret2
    exact ⟨ret_cmp (by rw [show ord3 a b c x y z = (1) from by unfold ord3; repeat' split <;> omega]; rfl), HF.out⟩

set_option maxHeartbeats 2000000 in
set_option maxRecDepth 100000 in
theorem gtr_ok (s t : ByteArray) (a b c x y z : Int) (w : World) (hq : VerIs s a b c) (hr : VerIs t x y z) :
    Calls Tryd.prog 17 #[.string s, .string t] w (CmpPost (decide (0 < ord3 a b c x y z)) w) := by
  have HQ := Lib.hid hq
  have HR := Lib.hid hr
  clear hq hr
  go_enter Tryd.func17, Tryd.ntmps17
  go_wp2_with fail
  refine (parse_is s _ HQ.out).mono ?_
  rintro e w1 ⟨rfl, hb1⟩
  go_wp2_with fail
  refine (parse_is t _ HR.out).mono ?_
  rintro e w2 ⟨rfl, hb2⟩
  have hfin := below_tr hb1 hb2
  have HF := Lib.hid hfin
  clear hb1 hb2 hfin
  rcases Int.lt_trichotomy a x with h | rfl | h
  · have t1 : decide (x < a) = false := by simp; omega
    have t2 : (a == x) = false := beq_eq_false_iff_ne.2 (by omega)
    go_wp2_with fail
    go_ret2
    exact ⟨ret_cmp (by rw [show ord3 a b c x y z = (-1) from by unfold ord3; repeat' split <;> omega]; rfl), HF.out⟩
  · rcases Int.lt_trichotomy b y with h | rfl | h
    · have t1 : decide (y < b) = false := by simp; omega
      have t2 : (b == y) = false := beq_eq_false_iff_ne.2 (by omega)
      go_wp2_with fail
      go_ret2
      exact ⟨ret_cmp (by rw [show ord3 a b c a y z = (-1) from by unfold ord3; repeat' split <;> omega]; rfl), HF.out⟩
    · rcases Int.lt_trichotomy c z with h | rfl | h
      · have t1 : decide (z < c) = false := by simp; omega
        have t2 : decide (z ≤ c) = false := by simp; omega
        go_wp2_with fail
        go_ret2
        exact ⟨ret_cmp (by rw [show ord3 a b c a b z = (-1) from by unfold ord3; repeat' split <;> omega]; rfl), HF.out⟩
      · go_wp2_with fail
        go_ret2
        exact ⟨ret_cmp (by rw [show ord3 a b c a b c = 0 from by unfold ord3; repeat' split <;> omega]; rfl), HF.out⟩
      · have t1 : decide (z < c) = true := by simp; omega
        have t2 : decide (z ≤ c) = true := by simp; omega
        go_wp2_with fail
        go_ret2
        exact ⟨ret_cmp (by rw [show ord3 a b c a b z = (1) from by unfold ord3; repeat' split <;> omega]; rfl), HF.out⟩
    · go_wp2_with fail
      go_ret2
      exact ⟨ret_cmp (by rw [show ord3 a b c a y z = (1) from by unfold ord3; repeat' split <;> omega]; rfl), HF.out⟩
  · go_wp2_with fail
    go_ret2
    exact ⟨ret_cmp (by rw [show ord3 a b c x y z = (1) from by unfold ord3; repeat' split <;> omega]; rfl), HF.out⟩

theorem slat_two (w : World) (s t : ByteArray) : SlAt (w.alloc (.cells #[.string s, .string t] 9)) (.slice (some ⟨w.heap.size, 0, none⟩) 2 2) (strVals [s, t]) :=
  SlAt.mk (xs := strVals [s, t]) (by simp [strVals]) (by unfold maxLen; simp) fun i hi => by
    have : i = 0 ∨ i = 1 := by simp [strVals] at hi; omega
    rcases this with rfl | rfl <;> simp [strVals, go_sem]

def TwoPost (a b : Bool) (w : World) (e : Ending) (w' : World) : Prop := e = .returned (.tuple #[.bool a, .bool b]) ∧ Below w.heap.size w w'

set_option maxHeartbeats 1000000 in
theorem greater_ok (s t : ByteArray) (a b c x y z : Int) (w : World) (hq : VerIs s a b c) (hr : VerIs t x y z) :
    Calls Tryd.prog 8 #[.string s, .string t] w (TwoPost (decide (0 ≤ ord3 a b c x y z)) true w) := by
  have hs := hq.size
  have ht := hr.size
  have hl : longIn [s, t] = false := by simp [longIn]; omega
  have HL := Lib.hid hl
  have HQ := Lib.hid hq
  have HR := Lib.hid hr
  clear hq hr hl
  go_enter Tryd.func8, Tryd.ntmps8
  go_wp2_with fail
  refine (short_yes _ [s, t] _ (slat_two _ _ _) HL.out).mono ?_
  rintro e w' ⟨rfl, rfl⟩
  go_wp2_with fail
  refine (geq_ok s t a b c x y z _ HQ.out HR.out).mono ?_
  rintro e w1 ⟨rfl, hb⟩
  go_wp2_with fail
  go_quiet (fail)
  go_wp2_with fail
  go_ret2
  exact ⟨rfl, below_drewN (below_tr ((Below.refl w.heap.size w).alloc (Nat.le_refl _) _) hb) _⟩

set_option maxHeartbeats 1000000 in
theorem above_ok (s t : ByteArray) (a b c x y z : Int) (w : World) (hq : VerIs s a b c) (hr : VerIs t x y z) :
    Calls Tryd.prog 9 #[.string s, .string t] w (TwoPost (decide (0 < ord3 a b c x y z)) true w) := by
  have hs := hq.size
  have ht := hr.size
  have hl : longIn [s, t] = false := by simp [longIn]; omega
  have HL := Lib.hid hl
  have HQ := Lib.hid hq
  have HR := Lib.hid hr
  clear hq hr hl
  go_enter Tryd.func9, Tryd.ntmps9
  go_wp2_with fail
  refine (short_yes _ [s, t] _ (slat_two _ _ _) HL.out).mono ?_
  rintro e w' ⟨rfl, rfl⟩
  go_wp2_with fail
  refine (gtr_ok s t a b c x y z _ HQ.out HR.out).mono ?_
  rintro e w1 ⟨rfl, hb⟩
  go_wp2_with fail
  go_quiet (fail)
  go_wp2_with fail
  go_ret2
  exact ⟨rfl, below_drewN (below_tr ((Below.refl w.heap.size w).alloc (Nat.le_refl _) _) hb) _⟩

set_option maxHeartbeats 1000000 in
set_option maxRecDepth 100000 in
theorem order_any (a b c x y z : Int) (w : World) :
    Calls Tryd.prog 10 #[.agg #[.int .i64 a, .int .i64 b, .int .i64 c], .agg #[.int .i64 x, .int .i64 y, .int .i64 z]] w fun e w' => e = .returned (.int .i64 (ord3 a b c x y z)) ∧ Below w.heap.size w w' := by
  rcases Int.lt_trichotomy a x with h | rfl | h
  · have ho : ord3 a b c x y z = (-1) := by unfold ord3; repeat' split <;> omega
    rw [ho]
    clear ho
    go_enter Tryd.func10, Tryd.ntmps10
    go_wp2
    refine wp_loop_rounds 4 ?_
    rw [rounds_succ]
    go_wp2
    go_quiet (fail)
    go_wp2
    go_ret
    exact ⟨rfl, by repeat (first | exact Below.refl _ _ | refine below_drewN ?_ _ | refine Below.alloc ?_ (by simp) _)⟩
  · rcases Int.lt_trichotomy b y with h | rfl | h
    · have ho : ord3 a b c a y z = (-1) := by unfold ord3; repeat' split <;> omega
      rw [ho]
      clear ho
      go_enter Tryd.func10, Tryd.ntmps10
      go_wp2
      refine wp_loop_rounds 4 ?_
      rw [rounds_succ]
      go_wp2
      go_quiet (fail)
      go_wp2
      go_quiet (fail)
      go_wp2
      rw [rounds_succ]
      go_wp2
      go_quiet (fail)
      go_wp2
      go_ret
      exact ⟨rfl, by repeat (first | exact Below.refl _ _ | refine below_drewN ?_ _ | refine Below.alloc ?_ (by simp) _)⟩
    · rcases Int.lt_trichotomy c z with h | rfl | h
      · have ho : ord3 a b c a b z = (-1) := by unfold ord3; repeat' split <;> omega
        rw [ho]
        clear ho
        go_enter Tryd.func10, Tryd.ntmps10
        go_wp2
        refine wp_loop_rounds 4 ?_
        rw [rounds_succ]
        go_wp2
        go_quiet (fail)
        go_wp2
        go_quiet (fail)
        go_wp2
        rw [rounds_succ]
        go_wp2
        go_quiet (fail)
        go_wp2
        go_quiet (fail)
        go_wp2
        rw [rounds_succ]
        go_wp2
        go_quiet (fail)
        go_wp2
        go_ret
        exact ⟨rfl, by repeat (first | exact Below.refl _ _ | refine below_drewN ?_ _ | refine Below.alloc ?_ (by simp) _)⟩
      · have ho : ord3 a b c a b c = (0) := by unfold ord3; repeat' split <;> omega
        rw [ho]
        clear ho
        go_enter Tryd.func10, Tryd.ntmps10
        go_wp2
        refine wp_loop_rounds 4 ?_
        rw [rounds_succ]
        go_wp2
        go_quiet (fail)
        go_wp2
        go_quiet (fail)
        go_wp2
        rw [rounds_succ]
        go_wp2
        go_quiet (fail)
        go_wp2
        go_quiet (fail)
        go_wp2
        rw [rounds_succ]
        go_wp2
        go_quiet (fail)
        go_wp2
        go_quiet (fail)
        go_wp2
        rw [rounds_succ]
        go_wp2
        go_ret
        exact ⟨rfl, by repeat (first | exact Below.refl _ _ | refine below_drewN ?_ _ | refine Below.alloc ?_ (by simp) _)⟩
      · have ho : ord3 a b c a b z = (1) := by unfold ord3; repeat' split <;> omega
        rw [ho]
        clear ho
        go_enter Tryd.func10, Tryd.ntmps10
        go_wp2
        refine wp_loop_rounds 4 ?_
        rw [rounds_succ]
        go_wp2
        go_quiet (fail)
        go_wp2
        go_quiet (fail)
        go_wp2
        rw [rounds_succ]
        go_wp2
        go_quiet (fail)
        go_wp2
        go_quiet (fail)
        go_wp2
        rw [rounds_succ]
        go_wp2
        go_quiet (fail)
        go_wp2
        go_quiet (fail)
        go_wp2
        go_ret
        exact ⟨rfl, by repeat (first | exact Below.refl _ _ | refine below_drewN ?_ _ | refine Below.alloc ?_ (by simp) _)⟩
    · have ho : ord3 a b c a y z = (1) := by unfold ord3; repeat' split <;> omega
      rw [ho]
      clear ho
      go_enter Tryd.func10, Tryd.ntmps10
      go_wp2
      refine wp_loop_rounds 4 ?_
      rw [rounds_succ]
      go_wp2
      go_quiet (fail)
      go_wp2
      go_quiet (fail)
      go_wp2
      rw [rounds_succ]
      go_wp2
      go_quiet (fail)
      go_wp2
      go_quiet (fail)
      go_wp2
      go_ret
      exact ⟨rfl, by repeat (first | exact Below.refl _ _ | refine below_drewN ?_ _ | refine Below.alloc ?_ (by simp) _)⟩
  · have ho : ord3 a b c x y z = (1) := by unfold ord3; repeat' split <;> omega
    rw [ho]
    clear ho
    go_enter Tryd.func10, Tryd.ntmps10
    go_wp2
    refine wp_loop_rounds 4 ?_
    rw [rounds_succ]
    go_wp2
    go_quiet (fail)
    go_wp2
    go_quiet (fail)
    go_wp2
    go_ret
    exact ⟨rfl, by repeat (first | exact Below.refl _ _ | refine below_drewN ?_ _ | refine Below.alloc ?_ (by simp) _)⟩

end Go.Proofs.YtjoemgniakcjlaaDoor

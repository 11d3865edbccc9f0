/-
  The law FnCompare.
-/
import Derived.Test.YtnehofekgnbelaaAddr6
import Derived.Test.YtnehofekgnbelaaIsAd
import Derived.Test.YtnehofekgnbelaaShort
namespace Go.Proofs.Ytnehofekgnbelaa
open Go.RowKit
set_option linter.unusedVariables false
set_option maxRecDepth 100000
set_option maxHeartbeats 1000000

/- HOW LONG THE TEXT OF AN ADDRESS IS -/
theorem fold_ge (r : List UInt8) : ∀ n : Int, 0 ≤ n → r.all isDig = true → n * 10 ^ r.length ≤ r.foldl (fun n b => 10 * n + ((b.toNat : Int) - 48)) n := by
  induction r with
  | nil => intro n _ _; simp
  | cons b r ih =>
    intro n hn h
    rw [List.all_cons, Bool.and_eq_true] at h
    have hb : 48 ≤ (b.toNat : Int) := (of_decide_eq_true h.1).1
    have h1 := ih (10 * n + ((b.toNat : Int) - 48)) (by omega) h.2
    have h2 : (10 * n) * 10 ^ r.length ≤ (10 * n + ((b.toNat : Int) - 48)) * 10 ^ r.length := Int.mul_le_mul_of_nonneg_right (by omega) (Int.pow_nonneg (by omega))
    have h3 : n * 10 ^ (r.length + 1) = (10 * n) * 10 ^ r.length := by rw [Int.pow_succ, ← Int.mul_assoc, Int.mul_comm (n * _) 10, Int.mul_assoc]
    rw [List.length_cons, h3]
    exact Int.le_trans h2 h1
theorem num_length {l : List UInt8} (h : numOK 255 l = true) : l.length ≤ 3 := by
  obtain ⟨h1, h2, h3, h4⟩ := numOK_dig h
  cases l with
  | nil => simp
  | cons b r =>
    rw [List.all_cons, Bool.and_eq_true] at h2
    have hb : 48 ≤ (b.toNat : Int) := (of_decide_eq_true h2.1).1
    by_cases hz : 1 < (b :: r).length
    · have hne : b ≠ 48 := fun e => h3 ⟨hz, by rw [e]; rfl⟩
      have hb2 : (b.toNat : Int) ≠ 48 := fun e => hne (UInt8.toNat_inj.1 (by show b.toNat = 48; omega))
      have h5 := fold_ge r ((b.toNat : Int) - 48) (by omega) h2.2
      have h6 : valL (b :: r) = r.foldl (fun n b => 10 * n + ((b.toNat : Int) - 48)) ((b.toNat : Int) - 48) := by
        simp [valL]
      rw [← h6] at h5
      have h7 : (1 : Int) * 10 ^ r.length ≤ ((b.toNat : Int) - 48) * 10 ^ r.length := Int.mul_le_mul_of_nonneg_right (by omega) (Int.pow_nonneg (by omega))
      rw [List.length_cons]
      by_cases h8 : r.length ≤ 2
      · omega
      · exfalso
        have h9 : (10 : Nat) ^ 3 ≤ 10 ^ r.length := Nat.pow_le_pow_right (by decide) (by omega)
        have h10 : ((10 ^ 3 : Nat) : Int) ≤ ((10 ^ r.length : Nat) : Int) := by exact_mod_cast h9
        rw [show ((10 ^ r.length : Nat) : Int) = (10 : Int) ^ r.length by simp] at h10
        have : ((10 ^ 3 : Nat) : Int) = 1000 := by decide
        omega
    · omega
theorem cutL_all (c : UInt8) (l : List UInt8) : l.length ≤ (cutL c l).1.length + 1 + (cutL c l).2.1.length ∧ ((cutL c l).2.2 = false → l.length = (cutL c l).1.length) := by
  induction l with
  | nil => simp [cutL]
  | cons b r ih =>
    by_cases hb : b = c
    · simp [cutL, hb]; omega
    · simp only [cutL, if_neg hb, List.length_cons]
      exact ⟨by omega, fun h => by rw [ih.2 h]⟩
theorem quad_length (k : Nat) : ∀ (l : List UInt8) (n N : Nat), quadN k l n = some N → l.length ≤ 4 * k + 3 := by
  induction k with
  | zero =>
    intro l n N h
    have hq := quad_ok h
    have h1 := num_length hq.1
    have h2 := (cutL_all 46 l).2 (by rw [hq.2.1]; rfl)
    omega
  | succ k ih =>
    intro l n N h
    have hq := quad_ok h
    have h1 := num_length hq.1
    have h2 := (cutL_all 46 l).1
    have h3 := hq.2.2
    rw [if_neg (by omega)] at h3
    have := ih _ _ _ h3
    omega
theorem addr_length {s : ByteArray} {a : Ad} (h : readL (bl s) = some a) : s.size ≤ 15 := by
  rw [← bl_length]
  cases h6 : a.six with
  | true =>
    have h1 := readL_true h h6
    have h2 := congrArg List.length h1.1
    rw [List.length_append, show preL.length = 10 from rfl] at h2
    omega
  | false => exact quad_length 3 _ _ _ (readL_false h h6)

theorem slat_two_at (W : World) (b : Nat) (s t : ByteArray) (hb : W.heap.size = b) : SlAt (W.alloc (.cells #[.string s, .string t] 9)) (.slice (some ⟨b, 0, none⟩) 2 2) (strVals [s, t]) := by
  subst hb
  exact SlAt.mk (xs := strVals [s, t]) (by simp [strVals]) (by unfold maxLen; simp) fun i hi => by
    have : i = 0 ∨ i = 1 := by simp [strVals] at hi; omega
    rcases this with rfl | rfl <;> simp [strVals, go_sem]
theorem slat_one_at (W : World) (b : Nat) (s : ByteArray) (hb : W.heap.size = b) : SlAt (W.alloc (.cells #[.string s] 9)) (.slice (some ⟨b, 0, none⟩) 1 1) (strVals [s]) := by
  subst hb
  exact slat_one W s

theorem longIn_small (ss : List ByteArray) (h : ∀ s ∈ ss, s.size ≤ 64) : longIn ss = false := by
  unfold longIn
  rw [List.any_eq_false]
  intro s hs
  have := h s hs
  simp
  omega

theorem implCompare_any (s t : ByteArray) (a b : Ad) (w : World) (ha : readL (bl s) = some a) (hb : readL (bl t) = some b) :
    Calls Try.prog 9 #[.string s, .string t] w (BelowPost w (.tuple #[.int .i64 (a.cmp b), .bool true])) := by
  have hnil := fun w a n c => Lib.run_eql_slice_nil (P := Try.prog) w 46 5 a n c 0 0 Try.underlying46
  have hs := addr_length ha
  have ht := addr_length hb
  have HL := Lib.hid (longIn_small [s, t] (by
    intro x hx
    simp only [List.mem_cons, List.not_mem_nil, or_false] at hx
    rcases hx with rfl | rfl <;> omega))
  have HA := Lib.hid (fun w => addressOf_any s a w ha (by omega))
  have HB := Lib.hid (fun w => addressOf_any t b w hb (by omega))
  have HC := Lib.hid (fun u v w hu hv => Cmp_any u v a b w hu hv (readL_ok ha) (readL_ok hb))
  clear ha hb
  go_enter Try.func9, Try.ntmps9
  go_wp2_with fail
  refine (short_yes _ [s, t] _ (slat_two_at _ _ _ _ (by simp)) HL.out).mono ?_
  rintro e w' ⟨rfl, rfl⟩
  go_wp2_with fail
  refine (HA.out _).mono ?_
  rintro e w1 ⟨v1, rfl, hv1, hb1⟩
  have ho := IPAt.out hv1
  rw [Ad.long_length] at ho
  obtain ⟨b1, o1, c1, rfl, _⟩ := ho
  have HB1 := Lib.hid (below_tr ((Below.refl w.heap.size w).alloc (Nat.le_refl _) _) hb1)
  clear hv1 hb1
  go_wp2_with fail
  refine (HB.out _).mono ?_
  rintro e w2 ⟨v2, rfl, hv2, hb2⟩
  have ho := IPAt.out hv2
  rw [Ad.long_length] at ho
  obtain ⟨b2, o2, c2, rfl, _⟩ := ho
  have HB2 := Lib.hid (below_tr HB1.out hb2)
  clear hv2 hb2
  go_wp2_with fail
  refine (HA.out _).mono ?_
  rintro e w3 ⟨v3, rfl, hv3, hb3⟩
  have HV3 := Lib.hid hv3
  have HB3 := Lib.hid (below_tr HB2.out hb3)
  clear hv3 hb3
  go_wp2_with fail
  refine (HB.out _).mono ?_
  rintro e w4 ⟨v4, rfl, hv4, hb4⟩
  have HV4 := Lib.hid hv4
  have HV5 := Lib.hid (HV3.out.keep hb4)
  have HB4 := Lib.hid (below_tr HB3.out hb4)
  clear hv4 hb4
  go_wp2_with fail
  refine (HC.out _ _ _ (.inl HV5.out) (.inl HV4.out)).mono ?_
  rintro e w5 ⟨rfl, hb5⟩
  have HB5 := Lib.hid (below_tr HB4.out hb5)
  clear hb5
  go_wp2_with fail
  go_ret2
  exact ⟨rfl, HB5.out⟩

def LawPost (w : World) (e : Ending) (w' : World) : Prop := e = .returned (.bool true) ∧ Below w.heap.size w w'

theorem lawCompare (s t : ByteArray) (w : World) (hs : s.size ≤ maxLen) (ht : t.size ≤ maxLen) :
    Calls Try.prog 3 #[.string s, .string t] w (LawPost w) := by
  unfold maxLen at hs ht
  by_cases h1 : s.size ≤ 2147483647
  · have t1 : decide ((2147483647 : Int) < s.size) = false := decide_eq_false (by omega)
    by_cases h2 : t.size ≤ 2147483647
    · have t2 : decide ((2147483647 : Int) < t.size) = false := decide_eq_false (by omega)
      have HS := Lib.hid (fun w => isAddress_any s w h1)
      have HT := Lib.hid (fun w => isAddress_any t w h2)
      by_cases ha : isAddr (bl s) = true
      · by_cases hb : isAddr (bl t) = true
        · obtain ⟨a, ea⟩ := Option.isSome_iff_exists.1 ha
          obtain ⟨b, eb⟩ := Option.isSome_iff_exists.1 hb
          rw [ha] at HS
          rw [hb] at HT
          have HI := Lib.hid (fun w => implCompare_any s t a b w ea eb)
          have HC := Lib.hid (fun w => compare_any s t a b w h1 h2 ea eb)
          clear ha hb ea eb
          generalize a.cmp b = c at HI HC
          go_enter Try.func3, Try.ntmps3
          go_wp2_with fail
          refine (HS.out _).mono ?_
          rintro e w1 ⟨rfl, hb1⟩
          have HB1 := Lib.hid hb1
          clear hb1
          go_wp2_with fail
          refine (HT.out _).mono ?_
          rintro e w2 ⟨rfl, hb2⟩
          have HB2 := Lib.hid (below_tr HB1.out hb2)
          clear hb2
          go_wp2_with fail
          refine (HI.out _).mono ?_
          rintro e w3 ⟨rfl, hb3⟩
          have HB3 := Lib.hid (below_tr HB2.out hb3)
          clear hb3
          go_wp2_with fail
          refine (HC.out _).mono ?_
          rintro e w4 ⟨rfl, hb4⟩
          have HB4 := Lib.hid (below_tr HB3.out hb4)
          clear hb4
          go_wp2_with fail
          go_ret
          exact ⟨rfl, HB4.out⟩
        · rw [ha] at HS
          rw [show isAddr (bl t) = false by simpa using hb] at HT
          clear ha hb
          go_enter Try.func3, Try.ntmps3
          go_wp2_with fail
          refine (HS.out _).mono ?_
          rintro e w1 ⟨rfl, hb1⟩
          have HB1 := Lib.hid hb1
          clear hb1
          go_wp2_with fail
          refine (HT.out _).mono ?_
          rintro e w2 ⟨rfl, hb2⟩
          have HB2 := Lib.hid (below_tr HB1.out hb2)
          clear hb2
          go_wp2_with fail
          go_ret
          exact ⟨rfl, HB2.out⟩
      · rw [show isAddr (bl s) = false by simpa using ha] at HS
        clear ha
        go_enter Try.func3, Try.ntmps3
        go_wp2_with fail
        refine (HS.out _).mono ?_
        rintro e w1 ⟨rfl, hb1⟩
        have HB1 := Lib.hid hb1
        clear hb1
        go_wp2_with fail
        go_ret
        exact ⟨rfl, HB1.out⟩
    · have t2 : decide ((2147483647 : Int) < t.size) = true := decide_eq_true (by omega)
      go_enter Try.func3, Try.ntmps3
      go_wp2_with fail
      go_ret
      exact ⟨rfl, Below.refl _ _⟩
  · have t1 : decide ((2147483647 : Int) < s.size) = true := decide_eq_true (by omega)
    go_enter Try.func3, Try.ntmps3
    go_wp2_with fail
    go_ret
    exact ⟨rfl, Below.refl _ _⟩

end Go.Proofs.Ytnehofekgnbelaa

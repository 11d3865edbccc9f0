/-
  Plain facts: a text that reads as an address is that address's text; so is a net's.
-/
import Derived.Test.YtnehofekgnbelaaGreatDoorM11
import Derived.Test.YtnehofekgnbelaaGreatDoorM9
import Derived.Test.YtnehofekgnbelaaGreatDoorM7
import Derived.Test.YtnehofekgnbelaaGreatDoorM6
namespace Go.Proofs.YtnehofekgnbelaaGreatDoor
open Go.RowKit
set_option linter.unusedVariables false

theorem cutL_split (c : UInt8) (l : List UInt8) : (cutL c l).2.2 = true → l = (cutL c l).1 ++ c :: (cutL c l).2.1 := by
  induction l with
  | nil => intro h; cases h
  | cons b r ih =>
    intro h
    unfold cutL at h ⊢
    by_cases hb : b = c
    · rw [if_pos hb]; simp [hb]
    · rw [if_neg hb] at h ⊢
      simp only at h ⊢
      rw [List.cons_append, ← ih h]
theorem cutL_whole (c : UInt8) (l : List UInt8) : (cutL c l).2.2 = false → (cutL c l).1 = l := by
  induction l with
  | nil => intro h; rfl
  | cons b r ih =>
    intro h
    unfold cutL at h ⊢
    by_cases hb : b = c
    · rw [if_pos hb] at h; cases h
    · rw [if_neg hb] at h ⊢
      simp only at h ⊢
      rw [ih h]

theorem dig_fact {b : UInt8} (h : isDig b = true) : 48 ≤ (b.toNat : Int) ∧ (b.toNat : Int) ≤ 57 := by unfold isDig at h; exact of_decide_eq_true h
theorem numOK_fact {most : Int} {l : List UInt8} (h : numOK most l = true) : l ≠ [] ∧ l.all isDig = true ∧ ¬ (1 < l.length ∧ l.head? = some 48) := by
  unfold numOK at h
  simp only [Bool.and_eq_true, decide_eq_true_eq, Bool.not_eq_true', Bool.and_eq_false_iff, decide_eq_false_iff_not] at h
  obtain ⟨⟨⟨h1, h2⟩, h3⟩, h4⟩ := h
  refine ⟨h1, h2, fun h => ?_⟩
  rcases h3 with h3 | h3
  · exact h3 h.1
  · exact h3 h.2
theorem valL_pos {l : List UInt8} (hne : l ≠ []) (hd : l.all isDig = true) (hz : l.head? ≠ some 48) : 1 ≤ valL l := by
  cases l with
  | nil => exact absurd rfl hne
  | cons b r =>
    rw [List.all_cons, Bool.and_eq_true] at hd
    have hb := dig_fact hd.1
    have hb2 : (b.toNat : Int) ≠ 48 := fun e => hz (by
      have : b = 48 := UInt8.toNat_inj.1 (by show b.toNat = 48; omega)
      rw [this]; rfl)
    have h1 := fold_ge r ((b.toNat : Int) - 48) (by omega) hd.2
    have h2 : (0 : Int) < 10 ^ r.length := Int.pow_pos (by omega)
    have h3 : 1 * 1 ≤ ((b.toNat : Int) - 48) * 10 ^ r.length := Int.mul_le_mul (by omega) (by omega) (by omega) (by omega)
    have h4 : valL (b :: r) = r.foldl (fun n b => 10 * n + ((b.toNat : Int) - 48)) ((b.toNat : Int) - 48) := by
      unfold valL
      rw [List.foldl_cons, Int.mul_zero, Int.zero_add]
    rw [h4]
    omega
theorem num_text_from (k : Nat) : ∀ l : List UInt8, l.length = k → l ≠ [] → l.all isDig = true → ¬ (1 < l.length ∧ l.head? = some 48) → l = decL (valL l).toNat := by
  induction k with
  | zero => intro l h0 hne; exact absurd (List.eq_nil_of_length_eq_zero h0) hne
  | succ k ih =>
    intro l hk hne hd hz
    obtain ⟨r, b, rfl⟩ : ∃ r b, l = r ++ [b] := ⟨l.dropLast, l.getLast hne, (List.dropLast_concat_getLast hne).symm⟩
    have hlen : r.length = k := by simpa using hk
    rw [List.all_append, Bool.and_eq_true] at hd
    have hb := dig_fact (b := b) (by simpa using hd.2)
    rw [valL_snoc]
    cases hr : r with
    | nil =>
      subst hr
      have e : (10 * valL [] + ((b.toNat : Int) - 48)).toNat = b.toNat - 48 := by unfold valL; simp; omega
      rw [e, decL_small (by omega), List.nil_append]
      congr 1
      exact UInt8.toNat_inj.1 (by rw [toNat_ofNat]; omega)
    | cons x r' =>
      rw [← hr]
      have hrne : r ≠ [] := by rw [hr]; simp
      have hhead : (r ++ [b]).head? = r.head? := by rw [hr]; rfl
      have hz' : r.head? ≠ some 48 := fun e => hz ⟨by rw [List.length_append, hr]; simp, by rw [hhead]; exact e⟩
      have hv := valL_pos hrne hd.1 hz'
      have hi := ih r hlen hrne hd.1 (fun h => hz' h.2)
      obtain ⟨m, hm⟩ : ∃ m : Nat, valL r = m := ⟨(valL r).toNat, by omega⟩
      rw [hm] at hv hi ⊢
      rw [Int.toNat_natCast] at hi
      have e : (10 * (m : Int) + ((b.toNat : Int) - 48)).toNat = 10 * m + (b.toNat - 48) := by omega
      rw [e, decL_of (by omega)]
      have e2 : (10 * m + (b.toNat - 48)) / 10 = m := by omega
      have e3 : (10 * m + (b.toNat - 48)) % 10 = b.toNat - 48 := by omega
      rw [e2, e3, ← hi]
      congr 2
      exact UInt8.toNat_inj.1 (by rw [toNat_ofNat]; omega)
theorem num_text {most : Int} {l : List UInt8} (h : numOK most l = true) : l = decL (valL l).toNat := by
  obtain ⟨h1, h2, h3⟩ := numOK_fact h
  exact num_text_from l.length l rfl h1 h2 h3

theorem quad_text {l : List UInt8} {N : Nat} (h : quadN 3 l 0 = some N) : l = quadL N := by
  obtain ⟨a1, a2, a3⟩ := quad_ok h
  have s1 := cutL_split 46 l (by rw [a2]; rfl)
  generalize (cutL 46 l).1 = p1 at a1 a3 s1
  generalize (cutL 46 l).2.1 = r1 at a3 s1
  rw [if_neg (by decide)] at a3
  obtain ⟨b1, b2, b3⟩ := quad_ok a3
  have s2 := cutL_split 46 r1 (by rw [b2]; rfl)
  generalize (cutL 46 r1).1 = p2 at b1 b3 s2
  generalize (cutL 46 r1).2.1 = r2 at b3 s2
  rw [if_neg (by decide)] at b3
  obtain ⟨c1, c2, c3⟩ := quad_ok b3
  have s3 := cutL_split 46 r2 (by rw [c2]; rfl)
  generalize (cutL 46 r2).1 = p3 at c1 c3 s3
  generalize (cutL 46 r2).2.1 = r3 at c3 s3
  rw [if_neg (by decide)] at c3
  obtain ⟨d1, d2, d3⟩ := quad_ok c3
  have s4 := cutL_whole 46 r3 (by rw [d2]; rfl)
  rw [if_pos (by decide), s4] at d3
  rw [s4] at d1
  have e1 := num_text a1
  have e2 := num_text b1
  have e3 := num_text c1
  have e4 := num_text d1
  have v1 := numOK_val a1
  have v2 := numOK_val b1
  have v3 := numOK_val c1
  have v4 := numOK_val d1
  obtain ⟨n1, k1⟩ : ∃ n : Nat, valL p1 = n := ⟨(valL p1).toNat, by omega⟩
  obtain ⟨n2, k2⟩ : ∃ n : Nat, valL p2 = n := ⟨(valL p2).toNat, by omega⟩
  obtain ⟨n3, k3⟩ : ∃ n : Nat, valL p3 = n := ⟨(valL p3).toNat, by omega⟩
  obtain ⟨n4, k4⟩ : ∃ n : Nat, valL r3 = n := ⟨(valL r3).toNat, by omega⟩
  rw [k1, Int.toNat_natCast] at e1
  rw [k2, Int.toNat_natCast] at e2
  rw [k3, Int.toNat_natCast] at e3
  rw [k4, Int.toNat_natCast] at e4
  rw [k1, k2, k3, k4] at d3
  simp only [Int.toNat_natCast] at d3
  have hN := Option.some.inj d3
  unfold quadL
  rw [show N / 16777216 = n1 by omega, show N / 65536 % 256 = n2 by omega, show N / 256 % 256 = n3 by omega, show N % 256 = n4 by omega]
  rw [← e1, ← e2, ← e3, ← e4, ← s3, ← s2]
  exact s1

theorem read_text {l : List UInt8} {a : Ad} (h : readL l = some a) : l = a.text := by
  unfold Ad.text
  cases h6 : a.six with
  | true => exact (readL_true h h6).1
  | false => exact quad_text (readL_false h h6)

end Go.Proofs.YtnehofekgnbelaaGreatDoor

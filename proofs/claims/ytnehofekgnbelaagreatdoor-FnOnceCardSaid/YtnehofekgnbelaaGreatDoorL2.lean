/-
  Texts put together: ReadT.
-/
import Derived.Test.YtnehofekgnbelaaGreatDoorL1

/-
  An address' text reads as that address (pure).
-/
namespace Go.Proofs.YtnehofekgnbelaaGreatDoor
open Go.RowKit
set_option linter.unusedVariables false

theorem dec_val (n : Nat) : valL (decL n) = n := by
  induction n using Nat.strongRecOn with
  | ind n ih =>
    by_cases h : 9 < n
    · rw [decL_of h, valL_snoc, ih _ (by omega), toNat_ofNat]
      omega
    · rw [decL_small h, show [UInt8.ofNat (48 + n % 10)] = [] ++ [UInt8.ofNat (48 + n % 10)] from rfl, valL_snoc, toNat_ofNat]
      unfold valL
      simp
      omega
theorem dec_head (n : Nat) : 0 < n → (decL n).head? ≠ some 48 := by
  induction n using Nat.strongRecOn with
  | ind n ih =>
    intro h0
    by_cases h : 9 < n
    · rw [decL_of h, List.head?_append]
      have h1 := ih _ (by omega : n / 10 < n) (by omega)
      have h2 := dec_ne (n / 10)
      cases hd : (decL (n / 10)).head? with
      | none => exact absurd (List.head?_eq_none_iff.1 hd) h2
      | some b =>
        rw [hd] at h1
        exact h1
    · rw [decL_small h]
      intro e
      have e := congrArg UInt8.toNat (Option.some.inj e)
      rw [toNat_ofNat] at e
      revert e
      show ¬ _ = 48
      omega
theorem dec_ok {most : Int} (n : Nat) (h : (n : Int) ≤ most) : numOK most (decL n) = true := by
  unfold numOK
  rw [dec_val]
  have h1 : (decL n).all isDig = true := List.all_eq_true.2 fun b hb => by
    have := dec_byte n b hb
    unfold isDig
    exact decide_eq_true (by omega)
  have h2 : (decide (1 < (decL n).length) && decide ((decL n).head? = some 48)) = false := by
    rw [Bool.and_eq_false_iff]
    by_cases h0 : 0 < n
    · exact .inr (decide_eq_false (dec_head n h0))
    · refine .inl (decide_eq_false ?_)
      rw [decL_small (by omega)]
      simp
  rw [h1, h2, decide_eq_true (dec_ne n), decide_eq_true h]
  rfl
theorem cut_dec (n : Nat) (r : List UInt8) : cutL 46 (decL n ++ 46 :: r) = (decL n, r, true) := cutL_at 46 _ _ fun b hb e => by
  have := dec_byte n b hb
  rw [e] at this
  revert this
  decide
theorem cut_dec_end (n : Nat) : cutL 46 (decL n) = (decL n, [], false) := cutL_none 46 _ fun b hb e => by
  have := dec_byte n b hb
  rw [e] at this
  revert this
  decide
theorem numV_dec (n : Nat) (h : n ≤ 255) : (numV 255 (decL n)).toNat = n := by
  unfold numV
  rw [if_pos (dec_ok n (by omega)), dec_val]
  rfl
theorem quadN_quadL (n : Nat) (h : n < 4294967296) : quadN 3 (quadL n) 0 = some n := by
  unfold quadL
  have a1 : n / 16777216 ≤ 255 := by omega
  have a2 : n / 65536 % 256 ≤ 255 := by omega
  have a3 : n / 256 % 256 ≤ 255 := by omega
  have a4 : n % 256 ≤ 255 := by omega
  rw [quadN, cut_dec, numV_dec _ a1, if_pos ⟨dec_ok _ (by omega), rfl⟩]
  simp only
  rw [quadN, cut_dec, numV_dec _ a2, if_pos ⟨dec_ok _ (by omega), rfl⟩]
  simp only
  rw [quadN, cut_dec, numV_dec _ a3, if_pos ⟨dec_ok _ (by omega), rfl⟩]
  simp only
  rw [quadN, cut_dec_end, numV_dec _ a4, if_pos ⟨dec_ok _ (by omega), rfl⟩]
  simp only [Option.some.injEq]
  omega
theorem hexL_len : ∀ (k n : Nat), n < 16 ^ k → (hexL n).length ≤ k
  | 0, n, h => by
    have : n = 0 := by simpa using h
    subst this
    unfold hexL
    simp
  | k + 1, n, h => by
    unfold hexL
    split
    · have := hexL_len k (n / 16) (by rw [Nat.pow_succ] at h; omega)
      simp
      exact this
    · simp
theorem readL_text {a : Ad} (h : a.ok) : readL a.text = some a := by
  obtain ⟨s, n⟩ := a
  unfold Ad.ok at h
  unfold Ad.text
  cases s with
  | true =>
    simp only [if_true] at h ⊢
    unfold readL
    have e : isSix (preL ++ hexL n) = true := by
      unfold isSix
      rw [decide_eq_true_eq]
      show (preL ++ hexL n).take preL.length = preL
      rw [List.take_left]
    have e2 : (preL ++ hexL n).drop 10 = hexL n := by
      show (preL ++ hexL n).drop preL.length = _
      rw [List.drop_left]
    have e3 : (preL ++ hexL n).length ≤ 14 := by
      have := hexL_len 4 n (by omega)
      rw [List.length_append]
      show 10 + _ ≤ 14
      omega
    rw [if_pos e, e2, hexN_hexL n (by omega), Option.bind_some, if_pos ⟨e3, rfl⟩]
  | false =>
    simp only [Bool.false_eq_true, if_false] at h ⊢
    unfold readL
    have e : isSix (quadL n) = false := by
      unfold isSix
      rw [decide_eq_false_iff_not]
      intro e
      have h58 : (58 : UInt8) ∈ (quadL n).take 10 := by rw [e]; simp [preL]
      have hk := List.mem_of_mem_take h58
      have hd : ∀ n, (58 : UInt8) ∉ decL n := fun n => dec_not (by decide) n
      unfold quadL at hk
      simp only [List.mem_append, List.mem_cons] at hk
      rcases hk with h | h | h | h | h | h | h
      · exact hd _ h
      · revert h; decide
      · exact hd _ h
      · revert h; decide
      · exact hd _ h
      · revert h; decide
      · exact hd _ h
    rw [if_neg (by rw [e]; decide), quadN_quadL n h]
    rfl

end Go.Proofs.YtnehofekgnbelaaGreatDoor

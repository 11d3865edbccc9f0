/-
  Sixteens' digits: plain facts.
-/
import Derived.Test.YtnehofekgnbelaaPlain
import Derived.Laws.Bits64b
namespace Go.Proofs.Ytnehofekgnbelaa
open Go.RowKit
set_option linter.unusedVariables false
set_option maxRecDepth 100000
set_option maxHeartbeats 1000000

theorem hexVal_dig (d : Nat) (h : d < 16) : hexVal (hexDig d) = some d := by
  have : ∀ d : Fin 16, hexVal (hexDig d.val) = some d.val := by decide
  exact this ⟨d, h⟩
theorem hexN_append (l m : List UInt8) : ∀ n, hexN (l ++ m) n = (hexN l n).bind (hexN m) := by
  induction l with
  | nil => intro n; rfl
  | cons x l ih =>
    intro n
    simp only [List.cons_append, hexN]
    cases hexVal x with
    | none => rfl
    | some d => exact ih _
theorem hexN_hexL (n : Nat) : n < 4294967296 → hexN (hexL n) 0 = some n := by
  induction n using Nat.strongRecOn with
  | _ n ih =>
    intro hn
    by_cases h0 : 0 < n
    · rw [hexL_of h0, hexN_append, ih (n / 16) (by omega) (by omega)]
      simp only [Option.bind, hexN, hexVal_dig (n % 16) (by omega)]
      congr 1
      omega
    · obtain rfl : n = 0 := by omega
      rw [hexL_zero]; rfl
/-- What read tells of sixteen bytes: the digits are those of the number. -/
theorem readL_true {l : List UInt8} {a : Ad} (h : readL l = some a) (h6 : a.six = true) : l = preL ++ hexL a.n ∧ (hexL a.n).length ≤ 4 := by
  unfold readL at h
  split at h
  · cases hx : hexN (l.drop 10) 0 with
    | none => rw [hx] at h; cases h
    | some n =>
      rw [hx] at h
      simp only [Option.bind] at h
      split at h
      · rename_i hc
        obtain rfl := Option.some.inj h
        refine ⟨hc.2.symm, ?_⟩
        have h1 := congrArg List.length hc.2
        rw [List.length_append] at h1
        have h2 := hc.1
        have h3 : preL.length = 10 := rfl
        simp only
        omega
      · cases h
  · cases hx : quadN 3 l 0 with
    | none => rw [hx] at h; cases h
    | some n => rw [hx] at h; obtain rfl := Option.some.inj h; cases h6
theorem readL_false {l : List UInt8} {a : Ad} (h : readL l = some a) (h6 : a.six = false) : quadN 3 l 0 = some a.n := by
  unfold readL at h
  split at h
  · cases hx : hexN (l.drop 10) 0 with
    | none => rw [hx] at h; cases h
    | some n =>
      rw [hx] at h
      simp only [Option.bind] at h
      split at h
      · obtain rfl := Option.some.inj h; cases h6
      · cases h
  · cases hx : quadN 3 l 0 with
    | none => rw [hx] at h; cases h
    | some n => rw [hx] at h; obtain rfl := Option.some.inj h; rfl

theorem hexL_lt (n : Nat) : n < 16 ^ (hexL n).length := by
  induction n using Nat.strongRecOn with
  | _ n ih =>
    by_cases h0 : 0 < n
    · have := ih (n / 16) (by omega)
      rw [hexL_of h0, List.length_append, show [hexDig (n % 16)].length = 1 from rfl, Nat.pow_succ]
      omega
    · obtain rfl : n = 0 := by omega
      rw [hexL_zero]; decide
theorem readL_ok {l : List UInt8} {a : Ad} (h : readL l = some a) : a.ok := by
  unfold Ad.ok
  cases h6 : a.six with
  | true =>
    have h1 := (readL_true h h6).2
    have h2 := hexL_lt a.n
    have h3 : (16 : Nat) ^ (hexL a.n).length ≤ 16 ^ 4 := Nat.pow_le_pow_right (by decide) h1
    have h4 : (16 : Nat) ^ 4 = 65536 := by decide
    simp only [if_true]
    omega
  | false =>
    have := quad_lt 3 _ _ _ (readL_false h h6)
    simpa using this

end Go.Proofs.Ytnehofekgnbelaa

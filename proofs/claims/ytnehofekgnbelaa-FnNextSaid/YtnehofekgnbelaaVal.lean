/-
  Whole numbers as bytes, and addresses: plain facts, no program in sight.
-/
import Derived.Test.YtnehofekgnbelaaBase
namespace Go.Proofs.Ytnehofekgnbelaa

/-- The number that bytes tell, the greatest first. -/
def val (l : List UInt8) : Nat := l.foldl (fun a b => a * 256 + b.toNat) 0

theorem val_from (l : List UInt8) : ∀ a, l.foldl (fun a b => a * 256 + b.toNat) a = a * 256 ^ l.length + val l := by
  induction l with
  | nil => intro a; simp [val]
  | cons x l ih =>
    intro a
    have h1 := ih (a * 256 + x.toNat)
    have h2 := ih x.toNat
    simp only [List.foldl_cons, List.length_cons, val, Nat.zero_mul, Nat.zero_add] at h1 h2 ⊢
    rw [h1, h2, Nat.pow_succ, Nat.add_mul, Nat.mul_assoc, Nat.mul_comm 256]
    omega
theorem val_cons (x : UInt8) (l : List UInt8) : val (x :: l) = x.toNat * 256 ^ l.length + val l := by
  have := val_from l x.toNat
  simp only [val, List.foldl_cons, Nat.zero_mul, Nat.zero_add] at this ⊢
  exact this
theorem val_append (l m : List UInt8) : val (l ++ m) = val l * 256 ^ m.length + val m := by
  unfold val
  rw [List.foldl_append, val_from]
  rfl
theorem val_lt (l : List UInt8) : val l < 256 ^ l.length := by
  induction l with
  | nil => simp [val]
  | cons x l ih =>
    rw [val_cons, List.length_cons, Nat.pow_succ]
    have hx : x.toNat ≤ 255 := by have := x.toNat_lt; omega
    have := Nat.mul_le_mul_right (256 ^ l.length) hx
    omega

/-- The bytes without zeros ahead. -/
def strip (l : List UInt8) : List UInt8 := l.dropWhile (· == 0)
theorem val_strip (l : List UInt8) : val (strip l) = val l := by
  induction l with
  | nil => rfl
  | cons x l ih =>
    unfold strip at ih ⊢
    rw [List.dropWhile_cons]
    split
    · rename_i h
      have : x = 0 := by simpa using h
      rw [ih, val_cons, this]
      simp
    · rfl
theorem strip_head (l : List UInt8) : strip l = [] ∨ ∃ x r, strip l = x :: r ∧ x ≠ 0 := by
  induction l with
  | nil => left; rfl
  | cons x l ih =>
    unfold strip at ih ⊢
    rw [List.dropWhile_cons]
    split
    · exact ih
    · rename_i h
      right
      exact ⟨x, l, rfl, by simpa using h⟩
theorem strip_suffix (l : List UInt8) : ∃ k, l = List.replicate k 0 ++ strip l := by
  induction l with
  | nil => exact ⟨0, rfl⟩
  | cons x l ih =>
    unfold strip at ih ⊢
    rw [List.dropWhile_cons]
    split
    · rename_i h
      obtain ⟨k, hk⟩ := ih
      have : x = 0 := by simpa using h
      refine ⟨k + 1, ?_⟩
      rw [List.replicate_succ, List.cons_append, ← hk, this]
    · exact ⟨0, by simp⟩
theorem strip_length (l : List UInt8) : (strip l).length ≤ l.length := by
  obtain ⟨k, hk⟩ := strip_suffix l
  have := congrArg List.length hk
  simp at this
  omega
theorem strip_pad (l : List UInt8) : List.replicate (l.length - (strip l).length) 0 ++ strip l = l := by
  obtain ⟨k, hk⟩ := strip_suffix l
  have := congrArg List.length hk
  simp at this
  rw [show l.length - (strip l).length = k from by omega]
  exact hk.symm

/-- Bytes of one length, held one against the other from the first on. -/
def lexL : List UInt8 → List UInt8 → Int
  | x :: l, y :: m => if x = y then lexL l m else if x < y then -1 else 1
  | _, _ => 0
def cmpN (a b : Nat) : Int := if a < b then -1 else if b < a then 1 else 0
def cmpW (l m : List UInt8) : Int := if l.length = m.length then lexL l m else if l.length < m.length then -1 else 1

theorem lex_val : ∀ (l m : List UInt8), l.length = m.length → lexL l m = cmpN (val l) (val m)
  | [], [], _ => rfl
  | [], _ :: _, h => by cases h
  | _ :: _, [], h => by cases h
  | x :: l, y :: m, h => by
    have hl : l.length = m.length := by simpa using h
    have ih := lex_val l m hl
    have h1 := val_lt l
    have h2 := val_lt m
    simp only [lexL, val_cons]
    rw [hl] at h1 ⊢
    by_cases hxy : x = y
    · rw [if_pos hxy, ih, hxy]
      unfold cmpN
      repeat' split
      all_goals omega
    · rw [if_neg hxy]
      have hne : x.toNat ≠ y.toNat := fun e => hxy (UInt8.toNat_inj.1 e)
      by_cases hlt : x < y
      · rw [if_pos hlt]
        have hlt' : x.toNat + 1 ≤ y.toNat := UInt8.lt_iff_toNat_lt.1 hlt
        have := Nat.mul_le_mul_right (256 ^ m.length) hlt'
        rw [Nat.add_mul] at this
        unfold cmpN
        rw [if_pos (by omega)]
      · rw [if_neg hlt]
        have hlt' : y.toNat + 1 ≤ x.toNat := by
          have : ¬ x.toNat < y.toNat := fun e => hlt (UInt8.lt_iff_toNat_lt.2 e)
          omega
        have := Nat.mul_le_mul_right (256 ^ m.length) hlt'
        rw [Nat.add_mul] at this
        unfold cmpN
        rw [if_neg (by omega), if_pos (by omega)]

theorem val_ge_of {x : UInt8} {l : List UInt8} (h : x ≠ 0) : 256 ^ l.length ≤ val (x :: l) := by
  rw [val_cons]
  have : 1 ≤ x.toNat := by
    have : x.toNat ≠ 0 := fun e => h (UInt8.toNat_inj.1 (by rw [e]; rfl))
    omega
  have := Nat.mul_le_mul_right (256 ^ l.length) this
  omega

/-- Of bytes without zeros ahead the longer ones tell the greater number. -/
theorem strip_lt {l m : List UInt8} (h : (strip l).length < (strip m).length) : val l < val m := by
  rw [← val_strip l, ← val_strip m]
  have h1 := val_lt (strip l)
  rcases strip_head m with h0 | ⟨y, r, hm, hy⟩
  · rw [h0] at h; simp at h
  · rw [hm] at h ⊢
    have h2 := val_ge_of (l := r) hy
    have h3 : (256 : Nat) ^ (strip l).length ≤ 256 ^ r.length := Nat.pow_le_pow_right (by decide) (by simp at h; omega)
    omega
theorem cmpW_val (l m : List UInt8) : cmpW (strip l) (strip m) = cmpN (val l) (val m) := by
  unfold cmpW
  by_cases h : (strip l).length = (strip m).length
  · rw [if_pos h, lex_val _ _ h, val_strip, val_strip]
  · rw [if_neg h]
    by_cases h2 : (strip l).length < (strip m).length
    · rw [if_pos h2]
      have := strip_lt h2
      unfold cmpN
      rw [if_pos this]
    · rw [if_neg h2]
      have := strip_lt (show (strip m).length < (strip l).length by omega)
      unfold cmpN
      rw [if_neg (by omega), if_pos this]
theorem lex_eq : ∀ (l m : List UInt8), l.length = m.length → lexL l m = 0 → l = m
  | [], [], _, _ => rfl
  | [], _ :: _, h, _ => by cases h
  | _ :: _, [], h, _ => by cases h
  | x :: l, y :: m, h, h0 => by
    simp only [lexL] at h0
    by_cases hxy : x = y
    · rw [if_pos hxy] at h0
      rw [hxy, lex_eq l m (by simpa using h) h0]
    · rw [if_neg hxy] at h0
      split at h0 <;> simp at h0
theorem strip_unique {l m : List UInt8} (h : val l = val m) : strip l = strip m := by
  have hl : (strip l).length = (strip m).length := by
    rcases Nat.lt_trichotomy (strip l).length (strip m).length with h1 | h1 | h1
    · have := strip_lt h1; omega
    · exact h1
    · have := strip_lt h1; omega
  refine lex_eq _ _ hl ?_
  rw [lex_val _ _ hl, val_strip, val_strip, h]
  unfold cmpN
  simp
theorem val_unique {l m : List UInt8} (hl : l.length = m.length) (h : val l = val m) : l = m := by
  refine lex_eq _ _ hl ?_
  rw [lex_val _ _ hl, h]
  unfold cmpN
  simp

/- ADDRESSES -/
structure Ad where
  six : Bool
  n : Nat

def Ad.ok (a : Ad) : Prop := a.n < if a.six then 65536 else 4294967296
def b4 (n : Nat) : List UInt8 := [UInt8.ofNat (n / 16777216), UInt8.ofNat (n / 65536), UInt8.ofNat (n / 256), UInt8.ofNat n]
def b2 (n : Nat) : List UInt8 := [UInt8.ofNat (n / 256), UInt8.ofNat n]
/-- Sixteen bytes that begin with 2001:db8::, or with what marks an address of four. -/
def pre6 : List UInt8 := [32, 1, 13, 184, 0, 0, 0, 0, 0, 0, 0, 0, 0, 0]
def pre4 : List UInt8 := [0, 0, 0, 0, 0, 0, 0, 0, 0, 0, 255, 255]
/-- The sixteen bytes of an address, and its standard bytes: four or sixteen. -/
def Ad.long (a : Ad) : List UInt8 := if a.six then pre6 ++ b2 a.n else pre4 ++ b4 a.n
def Ad.brief (a : Ad) : List UInt8 := if a.six then pre6 ++ b2 a.n else b4 a.n
def Ad.width (a : Ad) : Nat := if a.six then 16 else 4

theorem Ad.long_length (a : Ad) : a.long.length = 16 := by unfold Ad.long; split <;> rfl
theorem Ad.brief_length (a : Ad) : a.brief.length = a.width := by unfold Ad.brief Ad.width; split <;> rfl

theorem toNat_ofNat (n : Nat) : (UInt8.ofNat n).toNat = n % 256 := by simp
theorem val_b4 (n : Nat) (h : n < 4294967296) : val (b4 n) = n := by
  simp only [b4, val_cons, toNat_ofNat, List.length_cons, List.length_nil]
  simp [val]
  omega
theorem val_b2 (n : Nat) (h : n < 65536) : val (b2 n) = n := by
  simp only [b2, val_cons, toNat_ofNat, List.length_cons, List.length_nil]
  simp [val]
  omega
/-- What the number of sixteen bytes begins with. -/
def base6 : Nat := val pre6 * 65536
attribute [irreducible] base6
theorem val_brief (a : Ad) (h : a.ok) : val a.brief = if a.six then base6 + a.n else a.n := by
  unfold Ad.ok at h
  unfold Ad.brief
  cases hs : a.six with
  | false => rw [hs] at h; simp at h ⊢; exact val_b4 _ h
  | true =>
    rw [hs] at h
    simp only [if_true] at h ⊢
    rw [val_append, val_b2 _ h, show (b2 a.n).length = 2 from rfl, show (256 : Nat) ^ 2 = 65536 from rfl]
    unfold base6
    generalize val pre6 = p
    rfl

/-- How two addresses are ordered: -2 where they are of two kinds. -/
def Ad.cmp (a b : Ad) : Int := if a.six = b.six then cmpN a.n b.n else -2

theorem cmp_brief (a b : Ad) (ha : a.ok) (hb : b.ok) (h : a.six = b.six) : cmpW (strip a.brief) (strip b.brief) = cmpN a.n b.n := by
  have e1 := val_brief a ha
  have e2 := val_brief b hb
  rw [cmpW_val, e1, e2, h]
  generalize base6 = B
  clear e1 e2
  cases b.six with
  | false => rfl
  | true =>
    show cmpN (B + a.n) (B + b.n) = cmpN a.n b.n
    unfold cmpN
    by_cases h1 : a.n < b.n
    · rw [if_pos h1, if_pos (by omega)]
    · rw [if_neg h1, if_neg (by omega)]
      by_cases h2 : b.n < a.n
      · rw [if_pos h2, if_pos (by omega)]
      · rw [if_neg h2, if_neg (by omega)]

end Go.Proofs.Ytnehofekgnbelaa

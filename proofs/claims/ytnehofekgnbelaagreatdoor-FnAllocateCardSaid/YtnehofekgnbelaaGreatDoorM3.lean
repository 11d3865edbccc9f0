/-
  Texts put together: Mask.
-/
import Derived.Test.YtnehofekgnbelaaGreatDoorM2

/-
  Masks: plain facts.
-/
namespace Go.Proofs.YtnehofekgnbelaaGreatDoor
open Go.RowKit
set_option linter.unusedVariables false
set_option maxRecDepth 100000
set_option maxHeartbeats 2000000

/-- A byte of k ones and noughts behind them. -/
def mb (k : Nat) : UInt8 := UInt8.ofNat (256 - 2 ^ (8 - min k 8))
/-- A mask of l bytes, n ones. -/
def maskL (l n : Nat) : List UInt8 := (List.range l).map fun i => mb (n - 8 * i)
theorem maskL_length (l n : Nat) : (maskL l n).length = l := by simp [maskL]
theorem maskL_getD (l n i : Nat) (h : i < l) : (maskL l n).getD i 0 = mb (n - 8 * i) := by
  simp [maskL, List.getD_eq_getElem?_getD, h]
theorem mb_full (k : Nat) (h : 8 ≤ k) : mb k = 255 := by unfold mb; rw [Nat.min_eq_right h]; rfl
theorem mb_none : mb 0 = 0 := rfl
theorem mb_nat (k : Nat) : (mb k).toNat = 256 - 2 ^ (8 - min k 8) := by
  unfold mb
  rw [toNat_ofNat]
  have : 0 < 2 ^ (8 - min k 8) := Nat.pow_pos (by decide)
  omega

theorem and_u8 (x : UInt8) (k : Nat) : bits .and .u8 (x.toNat : Int) ((mb k).toNat : Int) = ((x.toNat / 2 ^ (8 - min k 8) * 2 ^ (8 - min k 8) : Nat) : Int) := by
  have key : ∀ x : Fin 256, ∀ k : Fin 9, bits .and .u8 (x.val : Int) ((256 - 2 ^ (8 - k.val) : Nat) : Int) = ((x.val / 2 ^ (8 - k.val) * 2 ^ (8 - k.val) : Nat) : Int) := by decide +kernel
  have := key ⟨x.toNat, x.toNat_lt⟩ ⟨min k 8, by omega⟩
  rw [mb_nat]
  exact this
theorem or_u8 (x : UInt8) (k : Nat) : bits .or .u8 (x.toNat : Int) ((255 - (mb k).toNat : Nat) : Int) = ((x.toNat / 2 ^ (8 - min k 8) * 2 ^ (8 - min k 8) + (2 ^ (8 - min k 8) - 1) : Nat) : Int) := by
  have key : ∀ x : Fin 256, ∀ k : Fin 9, bits .or .u8 (x.val : Int) ((255 - (256 - 2 ^ (8 - k.val)) : Nat) : Int) = ((x.val / 2 ^ (8 - k.val) * 2 ^ (8 - k.val) + (2 ^ (8 - k.val) - 1) : Nat) : Int) := by decide +kernel
  have := key ⟨x.toNat, x.toNat_lt⟩ ⟨min k 8, by omega⟩
  rw [mb_nat]
  exact this

/-- How many bits of byte d (from behind) are free. -/
def sh (free d : Nat) : Nat := min (free - 8 * d) 8
theorem sh_eq (free d : Nat) : 8 - min (8 * (d + 1) - free) 8 = sh free d := by unfold sh; omega

theorem and_byte (N free d : Nat) (hN : N < 4294967296) (hf : free ≤ 32) (hd : d ≤ 3) :
    (N / 256 ^ d % 256) / 2 ^ sh free d * 2 ^ sh free d = N / 2 ^ free * 2 ^ free / 256 ^ d % 256 := by
  unfold sh
  obtain rfl | rfl | rfl | rfl : d = 0 ∨ d = 1 ∨ d = 2 ∨ d = 3 := by omega
  all_goals
    have h : free = 0 ∨ free = 1 ∨ free = 2 ∨ free = 3 ∨ free = 4 ∨ free = 5 ∨ free = 6 ∨ free = 7 ∨ free = 8 ∨ free = 9 ∨ free = 10 ∨ free = 11 ∨ free = 12 ∨ free = 13 ∨ free = 14 ∨ free = 15 ∨ free = 16 ∨ free = 17 ∨ free = 18 ∨ free = 19 ∨ free = 20 ∨ free = 21 ∨ free = 22 ∨ free = 23 ∨ free = 24 ∨ free = 25 ∨ free = 26 ∨ free = 27 ∨ free = 28 ∨ free = 29 ∨ free = 30 ∨ free = 31 ∨ free = 32 := by omega
    rcases h with rfl | rfl | rfl | rfl | rfl | rfl | rfl | rfl | rfl | rfl | rfl | rfl | rfl | rfl | rfl | rfl | rfl | rfl | rfl | rfl | rfl | rfl | rfl | rfl | rfl | rfl | rfl | rfl | rfl | rfl | rfl | rfl | rfl
    all_goals
      simp only [Nat.reduceMul, Nat.reduceSub, Nat.reducePow, Nat.min_eq_left, Nat.min_eq_right, Nat.reduceLeDiff, Nat.pow_zero, Nat.div_one, Nat.mul_one, Nat.mul_zero, Nat.sub_zero, Nat.le_refl]
      try omega
theorem or_byte (N free d : Nat) (hN : N < 4294967296) (hf : free ≤ 32) (hd : d ≤ 3) :
    (N / 256 ^ d % 256) / 2 ^ sh free d * 2 ^ sh free d + (2 ^ sh free d - 1) = (N / 2 ^ free * 2 ^ free + (2 ^ free - 1)) / 256 ^ d % 256 := by
  unfold sh
  obtain rfl | rfl | rfl | rfl : d = 0 ∨ d = 1 ∨ d = 2 ∨ d = 3 := by omega
  all_goals
    have h : free = 0 ∨ free = 1 ∨ free = 2 ∨ free = 3 ∨ free = 4 ∨ free = 5 ∨ free = 6 ∨ free = 7 ∨ free = 8 ∨ free = 9 ∨ free = 10 ∨ free = 11 ∨ free = 12 ∨ free = 13 ∨ free = 14 ∨ free = 15 ∨ free = 16 ∨ free = 17 ∨ free = 18 ∨ free = 19 ∨ free = 20 ∨ free = 21 ∨ free = 22 ∨ free = 23 ∨ free = 24 ∨ free = 25 ∨ free = 26 ∨ free = 27 ∨ free = 28 ∨ free = 29 ∨ free = 30 ∨ free = 31 ∨ free = 32 := by omega
    rcases h with rfl | rfl | rfl | rfl | rfl | rfl | rfl | rfl | rfl | rfl | rfl | rfl | rfl | rfl | rfl | rfl | rfl | rfl | rfl | rfl | rfl | rfl | rfl | rfl | rfl | rfl | rfl | rfl | rfl | rfl | rfl | rfl | rfl
    all_goals
      simp only [Nat.reduceMul, Nat.reduceSub, Nat.reducePow, Nat.min_eq_left, Nat.min_eq_right, Nat.reduceLeDiff, Nat.pow_zero, Nat.div_one, Nat.mul_one, Nat.mul_zero, Nat.sub_zero, Nat.le_refl]
      try omega

def Ad.room (a : Ad) : Nat := if a.six then 16 else 32
def Ad.mask (a : Ad) (free : Nat) : List UInt8 := maskL a.width (8 * a.width - free)
/-- The first and the last address of the net. -/
def Ad.net (a : Ad) (free : Nat) : Ad := ⟨a.six, a.n / 2 ^ free * 2 ^ free⟩
def Ad.last (a : Ad) (free : Nat) : Ad := ⟨a.six, a.n / 2 ^ free * 2 ^ free + (2 ^ free - 1)⟩

theorem Ad.mask_length (a : Ad) (free : Nat) : (a.mask free).length = a.width := maskL_length _ _
theorem net_ok {a : Ad} (free : Nat) (ok : a.ok) : (a.net free).ok := by
  unfold Ad.ok at ok ⊢
  exact Nat.lt_of_le_of_lt (Nat.div_mul_le_self _ _) ok
theorem ok_room (a : Ad) : a.ok ↔ a.n < 2 ^ a.room := by
  unfold Ad.ok Ad.room
  cases a.six <;> simp
theorem last_ok {a : Ad} {free : Nat} (ok : a.ok) (hf : free ≤ a.room) : (a.last free).ok := by
  rw [ok_room] at ok ⊢
  have hr : (a.last free).room = a.room := rfl
  rw [hr]
  have e : 2 ^ a.room = 2 ^ (a.room - free) * 2 ^ free := by rw [← Nat.pow_add]; congr 1; omega
  rw [e] at ok ⊢
  have h1 : a.n / 2 ^ free < 2 ^ (a.room - free) := (Nat.div_lt_iff_lt_mul (Nat.pow_pos (by decide))).2 ok
  have h2 := Nat.mul_le_mul_right (2 ^ free) (show a.n / 2 ^ free + 1 ≤ 2 ^ (a.room - free) from h1)
  rw [Nat.add_mul] at h2
  have h3 : 0 < 2 ^ free := Nat.pow_pos (by decide)
  show a.n / 2 ^ free * 2 ^ free + (2 ^ free - 1) < _
  omega

/-- The bytes that tell the number: from behind, the d-th. -/
theorem brief_low (a : Ad) (d : Nat) (hd : d < if a.six then 2 else 4) : (a.brief.getD (a.width - 1 - d) 0).toNat = a.n / 256 ^ d % 256 := by
  obtain ⟨six, n⟩ := a
  cases six with
  | true =>
    simp only [if_true] at hd
    obtain rfl | rfl : d = 0 ∨ d = 1 := by omega
    · show (UInt8.ofNat n).toNat = _; rw [toNat_ofNat]; simp
    · show (UInt8.ofNat (n / 256)).toNat = _; rw [toNat_ofNat]
  | false =>
    simp only [Bool.false_eq_true, if_false] at hd
    obtain rfl | rfl | rfl | rfl : d = 0 ∨ d = 1 ∨ d = 2 ∨ d = 3 := by omega
    · show (UInt8.ofNat n).toNat = _; rw [toNat_ofNat]; simp
    · show (UInt8.ofNat (n / 256)).toNat = _; rw [toNat_ofNat]
    · show (UInt8.ofNat (n / 65536)).toNat = _; rw [toNat_ofNat]
    · show (UInt8.ofNat (n / 16777216)).toNat = _; rw [toNat_ofNat]
theorem brief_high (n m i : Nat) (hi : i < 14) : (Ad.brief ⟨true, n⟩).getD i 0 = (Ad.brief ⟨true, m⟩).getD i 0 := by
  show (pre6 ++ b2 n).getD i 0 = (pre6 ++ b2 m).getD i 0
  rw [List.getD_eq_getElem?_getD, List.getD_eq_getElem?_getD, List.getElem?_append_left (by simpa [pre6] using hi), List.getElem?_append_left (by simpa [pre6] using hi)]
theorem mask_low (a : Ad) (free d : Nat) (hd : d < a.width) : (a.mask free).getD (a.width - 1 - d) 0 = mb (8 * (d + 1) - free) := by
  unfold Ad.mask
  rw [maskL_getD _ _ _ (by omega)]
  congr 1
  omega
theorem mask_high (free i : Nat) (n : Nat) (hf : free ≤ 16) (hi : i < 14) : (Ad.mask ⟨true, n⟩ free).getD i 0 = 255 := by
  unfold Ad.mask
  have hw : (⟨true, n⟩ : Ad).width = 16 := rfl
  rw [hw, maskL_getD _ _ _ (by omega), mb_full _ (by omega)]
theorem low_or_high (a : Ad) (i : Nat) (hi : i < a.width) : (∃ d, (d < if a.six then 2 else 4) ∧ d < a.width ∧ i = a.width - 1 - d) ∨ (a.six = true ∧ i < 14) := by
  obtain ⟨six, n⟩ := a
  cases six with
  | true =>
    have hw : (⟨true, n⟩ : Ad).width = 16 := rfl
    rw [hw] at hi
    rw [hw]
    by_cases h : i < 14
    · exact .inr ⟨rfl, h⟩
    · exact .inl ⟨15 - i, by simp only [if_true]; omega, by omega, by omega⟩
  | false =>
    have hw : (⟨false, n⟩ : Ad).width = 4 := rfl
    rw [hw] at hi
    rw [hw]
    exact .inl ⟨3 - i, by simp only [Bool.false_eq_true, if_false]; omega, by omega, by omega⟩

theorem and_ad (a : Ad) (free i : Nat) (ok : a.ok) (hf : free ≤ a.room) (hi : i < a.width) :
    bits .and .u8 ((a.brief.getD i 0).toNat : Int) (((a.mask free).getD i 0).toNat : Int) = (((a.net free).brief.getD i 0).toNat : Int) := by
  have hN : a.n < 4294967296 := by unfold Ad.ok at ok; split at ok <;> omega
  have hf2 : free ≤ 32 := by unfold Ad.room at hf; split at hf <;> omega
  rcases low_or_high a i hi with ⟨d, hd, hdw, rfl⟩ | ⟨h6, h14⟩
  · have h1 := brief_low a d hd
    have h2 := brief_low (a.net free) d hd
    have hw : (a.net free).width = a.width := rfl
    rw [hw] at h2
    rw [mask_low a free d hdw, and_u8, h1, h2, sh_eq]
    congr 1
    exact and_byte a.n free d hN hf2 (by split at hd <;> omega)
  · obtain ⟨six, n⟩ := a
    obtain rfl : six = true := h6
    have hf16 : free ≤ 16 := hf
    rw [mask_high free i n hf16 h14, show (255 : UInt8) = mb 8 from rfl, and_u8]
    show (((((Ad.brief ⟨true, n⟩).getD i 0).toNat / 2 ^ 0 * 2 ^ 0 : Nat)) : Int) = _
    rw [Nat.pow_zero, Nat.div_one, Nat.mul_one, brief_high n (n / 2 ^ free * 2 ^ free) i h14]
    rfl
theorem or_ad (a : Ad) (free i : Nat) (ok : a.ok) (hf : free ≤ a.room) (hi : i < a.width) :
    bits .or .u8 ((a.brief.getD i 0).toNat : Int) ((255 - ((a.mask free).getD i 0).toNat : Nat) : Int) = (((a.last free).brief.getD i 0).toNat : Int) := by
  have hN : a.n < 4294967296 := by unfold Ad.ok at ok; split at ok <;> omega
  have hf2 : free ≤ 32 := by unfold Ad.room at hf; split at hf <;> omega
  rcases low_or_high a i hi with ⟨d, hd, hdw, rfl⟩ | ⟨h6, h14⟩
  · have h1 := brief_low a d hd
    have h2 := brief_low (a.last free) d hd
    have hw : (a.last free).width = a.width := rfl
    rw [hw] at h2
    rw [mask_low a free d hdw, or_u8, h1, h2, sh_eq]
    congr 1
    exact or_byte a.n free d hN hf2 (by split at hd <;> omega)
  · obtain ⟨six, n⟩ := a
    obtain rfl : six = true := h6
    have hf16 : free ≤ 16 := hf
    rw [mask_high free i n hf16 h14, show (255 : UInt8) = mb 8 from rfl, or_u8]
    show (((((Ad.brief ⟨true, n⟩).getD i 0).toNat / 2 ^ 0 * 2 ^ 0 + (2 ^ 0 - 1) : Nat)) : Int) = _
    rw [Nat.pow_zero, Nat.div_one, Nat.mul_one, Nat.sub_self, Nat.add_zero, brief_high n (n / 2 ^ free * 2 ^ free + (2 ^ free - 1)) i h14]
    rfl

theorem brief_inj {a b : Ad} (oa : a.ok) (ob : b.ok) (h6 : a.six = b.six) (h : a.brief = b.brief) : a = b := by
  have h1 := val_brief a oa
  have h2 := val_brief b ob
  rw [h, h2, h6] at h1
  obtain ⟨s, n⟩ := a
  obtain ⟨t, m⟩ := b
  obtain rfl : s = t := h6
  congr 1
  simp only at h1
  split at h1 <;> omega
theorem brief_ext {a b : Ad} (h6 : a.six = b.six) (h : ∀ i, i < a.width → a.brief.getD i 0 = b.brief.getD i 0) : a.brief = b.brief := by
  have hl : a.brief.length = b.brief.length := by rw [Ad.brief_length, Ad.brief_length, width_eq h6]
  refine List.ext_getElem hl fun i h1 h2 => ?_
  have := h i (by rw [Ad.brief_length] at h1; exact h1)
  rw [List.getD_eq_getElem?_getD, List.getD_eq_getElem?_getD, List.getElem?_eq_getElem h1, List.getElem?_eq_getElem h2] at this
  exact this

end Go.Proofs.YtnehofekgnbelaaGreatDoor

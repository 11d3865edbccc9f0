/-
  Texts put together: TextP, ShelfI, NetStr, NetStrA, TabLaid.
-/
import Derived.Test.YtnehofekgnbelaaGreatDoorM11
import Derived.Test.YtnehofekgnbelaaGreatDoorM9
import Derived.Test.YtnehofekgnbelaaGreatDoorM7
import Derived.Test.YtnehofekgnbelaaGreatDoorM6
import Derived.Shelf.Strconv.Itoa3
import Derived.Test.YtnehofekgnbelaaGreatDoorProg
import Derived.Test.YtnehofekgnbelaaGreatDoorRows
import Derived.Test.YtnehofekgnbelaaGreatDoorM18
import Derived.Test.YtnehofekgnbelaaGreatDoorM19
import Derived.Test.YtnehofekgnbelaaGreatDoorM13
import Derived.Stop.LaidErr

/-
  Plain facts: a text that reads as an address is that address's text; so is a net's.
-/
namespace Go.Proofs.YtnehofekgnbelaaGreatDoor
open Go.RowKit
set_option linter.unusedVariables false

theorem cutL_split (c : UInt8) (l : List UInt8) : (cutL c l).2.2 = true → l = (cutL c l).1 ++ c :: (cutL c l).2.1 := by
  induction l with
  | nil => intro h; cases h
  | cons b r ih =>
    intro h
    unfold cutL at h ⊢
    by_cases hb : b = c
    · rw [if_pos hb]; simp [hb]
    · rw [if_neg hb] at h ⊢
      simp only at h ⊢
      rw [List.cons_append, ← ih h]
theorem cutL_whole (c : UInt8) (l : List UInt8) : (cutL c l).2.2 = false → (cutL c l).1 = l := by
  induction l with
  | nil => intro h; rfl
  | cons b r ih =>
    intro h
    unfold cutL at h ⊢
    by_cases hb : b = c
    · rw [if_pos hb] at h; cases h
    · rw [if_neg hb] at h ⊢
      simp only at h ⊢
      rw [ih h]

theorem dig_fact {b : UInt8} (h : isDig b = true) : 48 ≤ (b.toNat : Int) ∧ (b.toNat : Int) ≤ 57 := by unfold isDig at h; exact of_decide_eq_true h
theorem numOK_fact {most : Int} {l : List UInt8} (h : numOK most l = true) : l ≠ [] ∧ l.all isDig = true ∧ ¬ (1 < l.length ∧ l.head? = some 48) := by
  unfold numOK at h
  simp only [Bool.and_eq_true, decide_eq_true_eq, Bool.not_eq_true', Bool.and_eq_false_iff, decide_eq_false_iff_not] at h
  obtain ⟨⟨⟨h1, h2⟩, h3⟩, h4⟩ := h
  refine ⟨h1, h2, fun h => ?_⟩
  rcases h3 with h3 | h3
  · exact h3 h.1
  · exact h3 h.2
theorem valL_pos {l : List UInt8} (hne : l ≠ []) (hd : l.all isDig = true) (hz : l.head? ≠ some 48) : 1 ≤ valL l := by
  cases l with
  | nil => exact absurd rfl hne
  | cons b r =>
    rw [List.all_cons, Bool.and_eq_true] at hd
    have hb := dig_fact hd.1
    have hb2 : (b.toNat : Int) ≠ 48 := fun e => hz (by
      have : b = 48 := UInt8.toNat_inj.1 (by show b.toNat = 48; omega)
      rw [this]; rfl)
    have h1 := fold_ge r ((b.toNat : Int) - 48) (by omega) hd.2
    have h2 : (0 : Int) < 10 ^ r.length := Int.pow_pos (by omega)
    have h3 : 1 * 1 ≤ ((b.toNat : Int) - 48) * 10 ^ r.length := Int.mul_le_mul (by omega) (by omega) (by omega) (by omega)
    have h4 : valL (b :: r) = r.foldl (fun n b => 10 * n + ((b.toNat : Int) - 48)) ((b.toNat : Int) - 48) := by
      unfold valL
      rw [List.foldl_cons, Int.mul_zero, Int.zero_add]
    rw [h4]
    omega
theorem num_text_from (k : Nat) : ∀ l : List UInt8, l.length = k → l ≠ [] → l.all isDig = true → ¬ (1 < l.length ∧ l.head? = some 48) → l = decL (valL l).toNat := by
  induction k with
  | zero => intro l h0 hne; exact absurd (List.eq_nil_of_length_eq_zero h0) hne
  | succ k ih =>
    intro l hk hne hd hz
    obtain ⟨r, b, rfl⟩ : ∃ r b, l = r ++ [b] := ⟨l.dropLast, l.getLast hne, (List.dropLast_concat_getLast hne).symm⟩
    have hlen : r.length = k := by simpa using hk
    rw [List.all_append, Bool.and_eq_true] at hd
    have hb := dig_fact (b := b) (by simpa using hd.2)
    rw [valL_snoc]
    cases hr : r with
    | nil =>
      subst hr
      have e : (10 * valL [] + ((b.toNat : Int) - 48)).toNat = b.toNat - 48 := by unfold valL; simp; omega
      rw [e, decL_small (by omega), List.nil_append]
      congr 1
      exact UInt8.toNat_inj.1 (by rw [toNat_ofNat]; omega)
    | cons x r' =>
      rw [← hr]
      have hrne : r ≠ [] := by rw [hr]; simp
      have hhead : (r ++ [b]).head? = r.head? := by rw [hr]; rfl
      have hz' : r.head? ≠ some 48 := fun e => hz ⟨by rw [List.length_append, hr]; simp, by rw [hhead]; exact e⟩
      have hv := valL_pos hrne hd.1 hz'
      have hi := ih r hlen hrne hd.1 (fun h => hz' h.2)
      obtain ⟨m, hm⟩ : ∃ m : Nat, valL r = m := ⟨(valL r).toNat, by omega⟩
      rw [hm] at hv hi ⊢
      rw [Int.toNat_natCast] at hi
      have e : (10 * (m : Int) + ((b.toNat : Int) - 48)).toNat = 10 * m + (b.toNat - 48) := by omega
      rw [e, decL_of (by omega)]
      have e2 : (10 * m + (b.toNat - 48)) / 10 = m := by omega
      have e3 : (10 * m + (b.toNat - 48)) % 10 = b.toNat - 48 := by omega
      rw [e2, e3, ← hi]
      congr 2
      exact UInt8.toNat_inj.1 (by rw [toNat_ofNat]; omega)
theorem num_text {most : Int} {l : List UInt8} (h : numOK most l = true) : l = decL (valL l).toNat := by
  obtain ⟨h1, h2, h3⟩ := numOK_fact h
  exact num_text_from l.length l rfl h1 h2 h3

theorem quad_text {l : List UInt8} {N : Nat} (h : quadN 3 l 0 = some N) : l = quadL N := by
  obtain ⟨a1, a2, a3⟩ := quad_ok h
  have s1 := cutL_split 46 l (by rw [a2]; rfl)
  generalize (cutL 46 l).1 = p1 at a1 a3 s1
  generalize (cutL 46 l).2.1 = r1 at a3 s1
  rw [if_neg (by decide)] at a3
  obtain ⟨b1, b2, b3⟩ := quad_ok a3
  have s2 := cutL_split 46 r1 (by rw [b2]; rfl)
  generalize (cutL 46 r1).1 = p2 at b1 b3 s2
  generalize (cutL 46 r1).2.1 = r2 at b3 s2
  rw [if_neg (by decide)] at b3
  obtain ⟨c1, c2, c3⟩ := quad_ok b3
  have s3 := cutL_split 46 r2 (by rw [c2]; rfl)
  generalize (cutL 46 r2).1 = p3 at c1 c3 s3
  generalize (cutL 46 r2).2.1 = r3 at c3 s3
  rw [if_neg (by decide)] at c3
  obtain ⟨d1, d2, d3⟩ := quad_ok c3
  have s4 := cutL_whole 46 r3 (by rw [d2]; rfl)
  rw [if_pos (by decide), s4] at d3
  rw [s4] at d1
  have e1 := num_text a1
  have e2 := num_text b1
  have e3 := num_text c1
  have e4 := num_text d1
  have v1 := numOK_val a1
  have v2 := numOK_val b1
  have v3 := numOK_val c1
  have v4 := numOK_val d1
  obtain ⟨n1, k1⟩ : ∃ n : Nat, valL p1 = n := ⟨(valL p1).toNat, by omega⟩
  obtain ⟨n2, k2⟩ : ∃ n : Nat, valL p2 = n := ⟨(valL p2).toNat, by omega⟩
  obtain ⟨n3, k3⟩ : ∃ n : Nat, valL p3 = n := ⟨(valL p3).toNat, by omega⟩
  obtain ⟨n4, k4⟩ : ∃ n : Nat, valL r3 = n := ⟨(valL r3).toNat, by omega⟩
  rw [k1, Int.toNat_natCast] at e1
  rw [k2, Int.toNat_natCast] at e2
  rw [k3, Int.toNat_natCast] at e3
  rw [k4, Int.toNat_natCast] at e4
  rw [k1, k2, k3, k4] at d3
  simp only [Int.toNat_natCast] at d3
  have hN := Option.some.inj d3
  unfold quadL
  rw [show N / 16777216 = n1 by omega, show N / 65536 % 256 = n2 by omega, show N / 256 % 256 = n3 by omega, show N % 256 = n4 by omega]
  rw [← e1, ← e2, ← e3, ← e4, ← s3, ← s2]
  exact s1

theorem read_text {l : List UInt8} {a : Ad} (h : readL l = some a) : l = a.text := by
  unfold Ad.text
  cases h6 : a.six with
  | true => exact (readL_true h h6).1
  | false => exact quad_text (readL_false h h6)

end Go.Proofs.YtnehofekgnbelaaGreatDoor

/-
  The kit's contracts of strconv.Itoa, laid at this seat's program.
-/
namespace Go.Proofs
open Go.Shelf
/-- The name of the table of powers of ten. -/
def YtnehofekgnbelaaGreatDoor.tabName : String := (YtnehofekgnbelaaGreatDoor.Rows.fnCanonicalRow.laid.map Prod.fst).getD 2 ""
def Tryz.laysM171_ren : Go.Shelf.Ren := ⟨fun | 171 => 56 | 243 => 87 | 246 => 128 | 283 => 158 | 284 => 159 | 285 => 160 | 286 => 161 | 129 => 117 | 317 => 176 | 318 => 177 | 319 => 178 | 320 => 179 | 337 => 185 | 338 => 186 | n => n, fun | 3 => 3 | 9 => 9 | 2 => 2 | 4 => 4 | 171 => 244 | 0 => 0 | 53 => 154 | 37 => 43 | 5 => 5 | 173 => 246 | 212 => 264 | 51 => 54 | 20 => 20 | 213 => 265 | 46 => 112 | 232 => 273 | 233 => 274 | n => n, fun | 17 => 1 | 18 => 2 | 19 => 3 | n => n⟩
theorem Tryz.laysM171 : Go.Proofs.LaysM.n171 Tryz.prog Tryz.laysM171_ren := {
  mixed := by kernel_rfl
  f129 := Tryz.func117.trans (congrArg some (by kernel_rfl))
  f171 := Tryz.func56.trans (congrArg some (by kernel_rfl))
  f243 := Tryz.func87.trans (congrArg some (by kernel_rfl))
  f246 := Tryz.func128.trans (congrArg some (by kernel_rfl))
  f283 := Tryz.func158.trans (congrArg some (by kernel_rfl))
  f284 := Tryz.func159.trans (congrArg some (by kernel_rfl))
  f285 := Tryz.func160.trans (congrArg some (by kernel_rfl))
  f286 := Tryz.func161.trans (congrArg some (by kernel_rfl))
  f317 := Tryz.func176.trans (congrArg some (by kernel_rfl))
  f318 := Tryz.func177.trans (congrArg some (by kernel_rfl))
  f319 := Tryz.func178.trans (congrArg some (by kernel_rfl))
  f320 := Tryz.func179.trans (congrArg some (by kernel_rfl))
  f337 := Tryz.func185.trans (congrArg some (by kernel_rfl))
  f338 := Tryz.func186.trans (congrArg some (by kernel_rfl))
  t0 := Tryz.underlying0
  a0 := Tryz.isAgg0
  z0 := Tryz.sizeOf0
  v0 := Tryz.zeroValue0
  t2 := Tryz.underlying2
  a2 := Tryz.isAgg2
  z2 := Tryz.sizeOf2
  v2 := Tryz.zeroValue2
  t3 := Tryz.underlying3
  a3 := Tryz.isAgg3
  z3 := Tryz.sizeOf3
  v3 := Tryz.zeroValue3
  t4 := Tryz.underlying4
  a4 := Tryz.isAgg4
  z4 := Tryz.sizeOf4
  v4 := Tryz.zeroValue4
  t5 := Tryz.underlying5
  a5 := Tryz.isAgg5
  z5 := Tryz.sizeOf5
  v5 := Tryz.zeroValue5
  t9 := Tryz.underlying9
  a9 := Tryz.isAgg9
  z9 := Tryz.sizeOf9
  v9 := Tryz.zeroValue9
  t20 := Tryz.underlying20
  a20 := Tryz.isAgg20
  z20 := Tryz.sizeOf20
  v20 := Tryz.zeroValue20
  t37 := Tryz.underlying43
  a37 := Tryz.isAgg43
  z37 := Tryz.sizeOf43
  v37 := Tryz.zeroValue43
  t46 := Tryz.underlying112
  a46 := Tryz.isAgg112
  z46 := Tryz.sizeOf112
  v46 := Tryz.zeroValue112
  t51 := Tryz.underlying54
  a51 := Tryz.isAgg54
  z51 := Tryz.sizeOf54
  v51 := Tryz.zeroValue54
  t53 := Tryz.underlying154
  a53 := Tryz.isAgg154
  z53 := Tryz.sizeOf154
  v53 := Tryz.zeroValue154
  t171 := Tryz.underlying244
  a171 := Tryz.isAgg244
  z171 := Tryz.sizeOf244
  v171 := Tryz.zeroValue244
  t173 := Tryz.underlying246
  a173 := Tryz.isAgg246
  z173 := Tryz.sizeOf246
  v173 := Tryz.zeroValue246
  t212 := Tryz.underlying264
  a212 := Tryz.isAgg264
  z212 := Tryz.sizeOf264
  v212 := Tryz.zeroValue264
  t213 := Tryz.underlying265
  a213 := Tryz.isAgg265
  z213 := Tryz.sizeOf265
  t232 := Tryz.underlying273
  a232 := Tryz.isAgg273
  z232 := Tryz.sizeOf273
  v232 := Tryz.zeroValue273
  t233 := Tryz.underlying274
  a233 := Tryz.isAgg274
  z233 := Tryz.sizeOf274
  v233 := Tryz.zeroValue274
  g17 := by kernel_rfl
  g18 := by kernel_rfl
  g19 := by kernel_rfl
  i0 := by kernel_rfl
  i2 := by kernel_rfl
  i3 := by kernel_rfl
  i4 := by kernel_rfl
  i5 := by kernel_rfl
  i9 := by kernel_rfl
  i20 := by kernel_rfl
  i37 := by kernel_rfl
  i46 := by kernel_rfl
  i51 := by kernel_rfl
  i53 := by kernel_rfl
  i171 := by kernel_rfl
  i173 := by kernel_rfl
  i212 := by kernel_rfl
  i232 := by kernel_rfl
  i233 := by kernel_rfl
  m17 := by kernel_rfl
  m18 := by kernel_rfl
  m19 := by kernel_rfl }
open Go.RowKit Go.Sort Go.Lib in
theorem Tryz.strconv_Itoa (n : Int) (h0 : -9223372036854775808 ≤ n) (h1 : n ≤ 9223372036854775807) (w : World) (htab : Lib.TabIs Tryz.prog w YtnehofekgnbelaaGreatDoor.tabName .u64 Lib.pow10Tab) :
    Calls Tryz.prog 56 #[.int .i64 n] w fun e w' => e = .returned (.string ⟨(Lib.itoa n).toArray⟩) ∧ ∃ k os, w' = grow (w.drewN k) os := Any.strconv_Itoa Tryz.laysM171 n h0 h1 w htab
def Tryz.lays171_ren : Go.Shelf.Ren := ⟨fun | 171 => 56 | 243 => 87 | 246 => 128 | 283 => 158 | 284 => 159 | 285 => 160 | 286 => 161 | 129 => 117 | 317 => 176 | 318 => 177 | 319 => 178 | 320 => 179 | 337 => 185 | 338 => 186 | n => n, fun | 3 => 3 | 9 => 9 | 2 => 2 | 4 => 4 | 171 => 244 | 0 => 0 | 53 => 154 | 37 => 43 | 5 => 5 | 173 => 246 | 212 => 264 | 51 => 54 | 20 => 20 | 213 => 265 | 46 => 112 | 232 => 273 | 233 => 274 | n => n, fun | 17 => 1 | 18 => 2 | 19 => 3 | n => n⟩
theorem Tryz.lays171 : Go.Proofs.Lays.n171 Tryz.prog Tryz.lays171_ren := {
  mixed := by kernel_rfl
  f129 := Tryz.func117.trans (congrArg some (by kernel_rfl))
  f171 := Tryz.func56.trans (congrArg some (by kernel_rfl))
  f243 := Tryz.func87.trans (congrArg some (by kernel_rfl))
  f246 := Tryz.func128.trans (congrArg some (by kernel_rfl))
  f283 := Tryz.func158.trans (congrArg some (by kernel_rfl))
  f284 := Tryz.func159.trans (congrArg some (by kernel_rfl))
  f285 := Tryz.func160.trans (congrArg some (by kernel_rfl))
  f286 := Tryz.func161.trans (congrArg some (by kernel_rfl))
  f317 := Tryz.func176.trans (congrArg some (by kernel_rfl))
  f318 := Tryz.func177.trans (congrArg some (by kernel_rfl))
  f319 := Tryz.func178.trans (congrArg some (by kernel_rfl))
  f320 := Tryz.func179.trans (congrArg some (by kernel_rfl))
  f337 := Tryz.func185.trans (congrArg some (by kernel_rfl))
  f338 := Tryz.func186.trans (congrArg some (by kernel_rfl))
  t0 := Tryz.underlying0
  a0 := Tryz.isAgg0
  z0 := Tryz.sizeOf0
  v0 := Tryz.zeroValue0
  t2 := Tryz.underlying2
  a2 := Tryz.isAgg2
  z2 := Tryz.sizeOf2
  v2 := Tryz.zeroValue2
  t3 := Tryz.underlying3
  a3 := Tryz.isAgg3
  z3 := Tryz.sizeOf3
  v3 := Tryz.zeroValue3
  t4 := Tryz.underlying4
  a4 := Tryz.isAgg4
  z4 := Tryz.sizeOf4
  v4 := Tryz.zeroValue4
  t5 := Tryz.underlying5
  a5 := Tryz.isAgg5
  z5 := Tryz.sizeOf5
  v5 := Tryz.zeroValue5
  t9 := Tryz.underlying9
  a9 := Tryz.isAgg9
  z9 := Tryz.sizeOf9
  v9 := Tryz.zeroValue9
  t20 := Tryz.underlying20
  a20 := Tryz.isAgg20
  z20 := Tryz.sizeOf20
  v20 := Tryz.zeroValue20
  t37 := Tryz.underlying43
  a37 := Tryz.isAgg43
  z37 := Tryz.sizeOf43
  v37 := Tryz.zeroValue43
  t46 := Tryz.underlying112
  a46 := Tryz.isAgg112
  z46 := Tryz.sizeOf112
  v46 := Tryz.zeroValue112
  t51 := Tryz.underlying54
  a51 := Tryz.isAgg54
  z51 := Tryz.sizeOf54
  v51 := Tryz.zeroValue54
  t53 := Tryz.underlying154
  a53 := Tryz.isAgg154
  z53 := Tryz.sizeOf154
  v53 := Tryz.zeroValue154
  t171 := Tryz.underlying244
  a171 := Tryz.isAgg244
  z171 := Tryz.sizeOf244
  v171 := Tryz.zeroValue244
  t173 := Tryz.underlying246
  a173 := Tryz.isAgg246
  z173 := Tryz.sizeOf246
  v173 := Tryz.zeroValue246
  t212 := Tryz.underlying264
  a212 := Tryz.isAgg264
  z212 := Tryz.sizeOf264
  v212 := Tryz.zeroValue264
  t213 := Tryz.underlying265
  a213 := Tryz.isAgg265
  z213 := Tryz.sizeOf265
  t232 := Tryz.underlying273
  a232 := Tryz.isAgg273
  z232 := Tryz.sizeOf273
  v232 := Tryz.zeroValue273
  t233 := Tryz.underlying274
  a233 := Tryz.isAgg274
  z233 := Tryz.sizeOf274
  v233 := Tryz.zeroValue274
  g17 := by kernel_rfl
  g18 := by kernel_rfl
  g19 := by kernel_rfl }
open Go.RowKit Go.Sort Go.Lib in
theorem Tryz.strconv_Itoa_small (i : Nat) (hi : i < 100) (w : World) :
    Calls Tryz.prog 56 #[.int .i64 i] w fun e w' => e = .returned (.string ⟨(Lib.decDigits i).toArray⟩) ∧ w' = w := Any.strconv_Itoa_small Tryz.lays171 i hi w
end Go.Proofs

/-
  (*net.IPNet).String: the text of a net.
-/
namespace Go.Proofs.YtnehofekgnbelaaGreatDoor
open Go.RowKit
set_option linter.unusedVariables false
set_option maxRecDepth 100000
set_option maxHeartbeats 1000000

theorem decDigits_decL (n : Nat) : Lib.decDigits n = decL n := by
  induction n using Nat.strongRecOn with
  | ind n ih =>
    unfold Lib.decDigits
    by_cases h : n < 10
    · rw [dif_pos h, decL_small (by omega)]
      congr 2
      omega
    · rw [dif_neg h, decL_of (by omega), ih (n / 10) (by omega)]
theorem itoa_decL (n : Nat) : Lib.itoa (n : Int) = decL n := by
  unfold Lib.itoa
  rw [if_neg (by omega), Int.toNat_natCast, decDigits_decL]
theorem bs_of {s : ByteArray} {l : List UInt8} (h : bl s = l) : s = ⟨l.toArray⟩ := by
  subst h
  simp [bl]
theorem text_fix {w w' : World} {l : List UInt8} {e : Ending} (h : TextPost w l e w') : e = .returned (.string ⟨l.toArray⟩) ∧ Below w.heap.size w w' := by
  obtain ⟨s, rfl, hs, hb⟩ := h
  rw [bs_of hs]
  exact ⟨rfl, hb⟩
theorem text_length {a : Ad} (ok : a.ok) : a.text.length ≤ 15 := by
  unfold Ad.ok at ok
  unfold Ad.text
  cases h : a.six with
  | true =>
    rw [h] at ok
    simp only [if_true] at ok ⊢
    have := hexL_length 4 a.n (by omega)
    rw [List.length_append, show preL.length = 10 from rfl]
    omega
  | false =>
    rw [h] at ok
    simp only [Bool.false_eq_true, if_false] at ok ⊢
    have h1 := decL_length 2 (a.n / 16777216) (by omega)
    have h2 := decL_length 2 (a.n / 65536 % 256) (by omega)
    have h3 := decL_length 2 (a.n / 256 % 256) (by omega)
    have h4 := decL_length 2 (a.n % 256) (by omega)
    unfold quadL
    simp only [List.length_append, List.length_cons]
    omega

/-- The table of powers of ten. -/
def Tab (w : World) : Prop := Lib.TabIs Tryz.prog w tabName .u64 Lib.pow10Tab
theorem Tab.on {w w' : World} (h : Tab w) (hb : Below w.heap.size w w') : Tab w' := by
  unfold Tab Lib.TabIs World.var? at *
  cases hg : Tryz.prog.globalNamed tabName with
  | none => simp [hg] at h
  | some g =>
    simp only [hg, Option.bind_some] at h ⊢
    have hlt : g < w.heap.size := by
      rcases Nat.lt_or_ge g w.heap.size with h' | h'
      · exact h'
      · rw [Array.getElem?_eq_none h'] at h; simp at h
    rw [hb.block g hlt]
    exact h
theorem below_grow (w : World) (q : Nat) (os : Array Obj) : Below w.heap.size w (Sort.grow (w.drewN q) os) :=
  ⟨rfl, rfl, rfl, by simp [Sort.grow], fun i hi => by
    show ((w.drewN q).heap ++ os)[i]? = _
    rw [Array.getElem?_append_left (by show i < w.heap.size; omega)]
    rfl⟩
theorem itoa_any (n : Nat) (w : World) (hn : n ≤ 1000) (ht : Tab w) : Calls Tryz.prog 56 #[.int .i64 n] w (TextPost w (decL n)) := by
  refine (Tryz.strconv_Itoa n (by omega) (by omega) w ht).mono ?_
  rintro e w' ⟨rfl, k, os, rfl⟩
  refine ⟨_, rfl, ?_, below_grow _ _ _⟩
  simp [bl, itoa_decL]

/-- A net's text. -/
def netL (a : Ad) (free : Nat) : List UInt8 := a.text ++ 47 :: decL (8 * a.width - free)
theorem net_text {l : List UInt8} {a : Ad} {free : Nat} {m : Int} (h : NetOf l a free) (hn : numOK m (cutL 47 l).2.1 = true) : l = netL a free := by
  have h1 := cutL_split 47 l h.more
  have h2 := read_text h.ad
  have h3 := num_text hn
  rw [h.val, Int.toNat_natCast] at h3
  rw [h2, h3] at h1
  exact h1
theorem netString_any (B : Nat) (vi vm : Value) (a : Ad) (free : Nat) (w : World) (h0 : w.cell? ⟨B, 0, none⟩ = some vi) (h1 : w.cell? ⟨B, 1, none⟩ = some vm) (hi : BriefAt w vi a) (hm : IPAt w vm (a.mask free)) (ok : a.ok) (hf : free ≤ a.room) (ht : Tab w) :
    Calls Tryz.prog 29 #[.pointer (some ⟨B, 0, none⟩)] w (TextPost w (netL a free)) := by
  have hnil := fun w a n c => Lib.run_eql_slice_nil (P := Tryz.prog) w 67 5 a n c 0 0 Tryz.underlying67
  have hnil2 := fun w a n c => Lib.run_eql_slice_nil (P := Tryz.prog) w 68 5 a n c 0 0 Tryz.underlying68
  have HN := Lib.hid (nnm_any B vi vm a free w h0 h1 hi hm)
  obtain ⟨hr1, hr2⟩ := room_le a
  obtain ⟨b, o, cap, rfl, lb, g1, g2, gc⟩ := IPAt.out hm
  rw [Ad.mask_length] at g1 gc h1 HN
  have HM := Lib.hid (maskLength_any b o cap a.width (8 * a.width - free) w (width_cases a).2 (by omega) g1 g2 (fun i hi => by
    rw [gc i hi]
    unfold Ad.mask
    rw [maskL_getD _ _ _ hi]))
  have HT := Lib.hid (fun w (t : Tab w) => itoa_any (8 * a.width - free) w (by omega) t)
  have HTAB := Lib.hid ht
  have HS := Lib.hid (fun v (h : BriefAt w v a) => ipString_any v a w (.inr h) ok)
  have hlen := text_length ok
  have hnum : 8 * a.width - free ≤ 128 := by omega
  have HLN := Lib.hid (show netL a free = a.text ++ 47 :: decL (8 * a.width - free) from rfl)
  generalize netL a free = L at HLN ⊢
  have hdl := decL_length 2 (8 * a.width - free) (by omega)
  generalize 8 * a.width - free = k at HM HT HLN hnum hdl
  generalize a.text = tx at HS HLN hlen
  have t1 : ((k : Int) == -1) = false := by rw [beq_eq_false_iff_ne]; omega
  have HDL := Lib.hid hdl
  have HLEN := Lib.hid hlen
  clear h0 h1 hi hm ok hf ht hr1 hr2 gc hdl hlen
  go_enter Tryz.func29, Tryz.ntmps29
  go_wp2_with fail
  refine HN.out.mono ?_
  rintro e w' ⟨vn, rfl, hvn, rfl⟩
  have HV := Lib.hid hvn
  obtain ⟨bn, on, cn, rfl, _⟩ := BriefAt.out hvn
  clear hvn HN
  go_wp2_with fail
  refine HM.out.mono ?_
  rintro e w' ⟨rfl, rfl⟩
  go_wp2_with fail
  refine (HS.out _ HV.out).mono ?_
  rintro e w1 ⟨s1, rfl, hs1, hb1⟩
  have z1 : s1.size ≤ 15 := by rw [← bl_length, hs1]; exact HLEN.out
  have HS1 := Lib.hid hs1
  have HB1 := Lib.hid hb1
  clear hs1 hb1
  go_wp2_with fail
  refine (HT.out _ (HTAB.out.on HB1.out)).mono ?_
  rintro e w2 ⟨s2, rfl, hs2, hb2⟩
  have z2 : s2.size ≤ 3 := by rw [← bl_length, hs2]; exact HDL.out
  have HS2 := Lib.hid hs2
  have HB2 := Lib.hid (below_tr HB1.out hb2)
  clear hs2 hb2
  go_wp2_with fail
  go_ret
  refine ⟨_, rfl, ?_, HB2.out⟩
  rw [HLN.out]
  simp only [bl_add, HS1.out, HS2.out]
  simp [bl]

end Go.Proofs.YtnehofekgnbelaaGreatDoor

/-
  IPNet.String where the address is of four bytes or of sixteen.
-/
namespace Go.Proofs.YtnehofekgnbelaaGreatDoor
open Go.RowKit
set_option linter.unusedVariables false
set_option maxRecDepth 100000
set_option maxHeartbeats 1000000

theorem nnmA_any (B : Nat) (vi vm : Value) (a : Ad) (free : Nat) (w : World) (h0 : w.cell? ⟨B, 0, none⟩ = some vi) (h1 : w.cell? ⟨B, 1, none⟩ = some vm) (hi : AdAt w vi a) (hm : IPAt w vm (a.mask free)) :
    Calls Tryz.prog 53 #[.pointer (some ⟨B, 0, none⟩)] w (NnmPost w a vm) := by
  have hnil := fun w a n c => Lib.run_eql_slice_nil (P := Tryz.prog) w 67 5 a n c 0 0 Tryz.underlying67
  obtain ⟨six, n⟩ := a
  cases six with
  | true => exact nnm_any B vi vm _ free w h0 h1 (hi.elim (fun h => h) (fun h => h)) hm
  | false =>
    have HT := Lib.hid (to4_any vi _ w hi)
    obtain ⟨b, o, na, cap, rfl⟩ := hi.slice
    obtain ⟨m, mo, mcap, rfl, _⟩ := IPAt.out hm
    rw [Ad.mask_length] at h1 ⊢
    clear hi hm
    have hw : (⟨false, n⟩ : Ad).width = 4 := rfl
    rw [hw] at h1 ⊢
    clear hw
    go_enter Tryz.func53, Tryz.ntmps53
    go_wp2_with fail
    refine HT.out.mono ?_
    rintro e w' ⟨v', rfl, hv, rfl⟩
    have hv2 : BriefAt w v' ⟨false, n⟩ := hv
    have HV := Lib.hid hv2
    obtain ⟨b3, o3, cap3, rfl, _⟩ := BriefAt.out hv2
    have hw : (⟨false, n⟩ : Ad).width = 4 := rfl
    rw [hw] at HV ⊢
    clear hv hv2 hw
    go_wp2_with fail
    go_ret2
    exact ⟨_, rfl, HV.out, rfl⟩

theorem netStringA_any (B : Nat) (vi vm : Value) (a : Ad) (free : Nat) (w : World) (h0 : w.cell? ⟨B, 0, none⟩ = some vi) (h1 : w.cell? ⟨B, 1, none⟩ = some vm) (hi : AdAt w vi a) (hm : IPAt w vm (a.mask free)) (ok : a.ok) (hf : free ≤ a.room) (ht : Tab w) :
    Calls Tryz.prog 29 #[.pointer (some ⟨B, 0, none⟩)] w (TextPost w (netL a free)) := by
  have hnil := fun w a n c => Lib.run_eql_slice_nil (P := Tryz.prog) w 67 5 a n c 0 0 Tryz.underlying67
  have hnil2 := fun w a n c => Lib.run_eql_slice_nil (P := Tryz.prog) w 68 5 a n c 0 0 Tryz.underlying68
  have HN := Lib.hid (nnmA_any B vi vm a free w h0 h1 hi hm)
  obtain ⟨hr1, hr2⟩ := room_le a
  obtain ⟨b, o, cap, rfl, lb, g1, g2, gc⟩ := IPAt.out hm
  rw [Ad.mask_length] at g1 gc h1 HN
  have HM := Lib.hid (maskLength_any b o cap a.width (8 * a.width - free) w (width_cases a).2 (by omega) g1 g2 (fun i hi => by
    rw [gc i hi]
    unfold Ad.mask
    rw [maskL_getD _ _ _ hi]))
  have HT := Lib.hid (fun w (t : Tab w) => itoa_any (8 * a.width - free) w (by omega) t)
  have HTAB := Lib.hid ht
  have HS := Lib.hid (fun v (h : BriefAt w v a) => ipString_any v a w (.inr h) ok)
  have hlen := text_length ok
  have hnum : 8 * a.width - free ≤ 128 := by omega
  have HLN := Lib.hid (show netL a free = a.text ++ 47 :: decL (8 * a.width - free) from rfl)
  generalize netL a free = L at HLN ⊢
  have hdl := decL_length 2 (8 * a.width - free) (by omega)
  generalize 8 * a.width - free = k at HM HT HLN hnum hdl
  generalize a.text = tx at HS HLN hlen
  have t1 : ((k : Int) == -1) = false := by rw [beq_eq_false_iff_ne]; omega
  have HDL := Lib.hid hdl
  have HLEN := Lib.hid hlen
  clear h0 h1 hi hm ok hf ht hr1 hr2 gc hdl hlen
  go_enter Tryz.func29, Tryz.ntmps29
  go_wp2_with fail
  refine HN.out.mono ?_
  rintro e w' ⟨vn, rfl, hvn, rfl⟩
  have HV := Lib.hid hvn
  obtain ⟨bn, on, cn, rfl, _⟩ := BriefAt.out hvn
  clear hvn HN
  go_wp2_with fail
  refine HM.out.mono ?_
  rintro e w' ⟨rfl, rfl⟩
  go_wp2_with fail
  refine (HS.out _ HV.out).mono ?_
  rintro e w1 ⟨s1, rfl, hs1, hb1⟩
  have z1 : s1.size ≤ 15 := by rw [← bl_length, hs1]; exact HLEN.out
  have HS1 := Lib.hid hs1
  have HB1 := Lib.hid hb1
  clear hs1 hb1
  go_wp2_with fail
  refine (HT.out _ (HTAB.out.on HB1.out)).mono ?_
  rintro e w2 ⟨s2, rfl, hs2, hb2⟩
  have z2 : s2.size ≤ 3 := by rw [← bl_length, hs2]; exact HDL.out
  have HS2 := Lib.hid hs2
  have HB2 := Lib.hid (below_tr HB1.out hb2)
  clear hs2 hb2
  go_wp2_with fail
  go_ret
  refine ⟨_, rfl, ?_, HB2.out⟩
  rw [HLN.out]
  simp only [bl_add, HS1.out, HS2.out]
  simp [bl]

end Go.Proofs.YtnehofekgnbelaaGreatDoor

/-
  From a row's listed variables to the fact that the walks take.
-/
namespace Go.Proofs.YtnehofekgnbelaaGreatDoor
open Go.RowKit

/-- From what the row lists to the fact that the walks take: the table of powers of ten. -/
theorem tab_of_laid {W : World} {rest : List (String × DataW Unit)} {x y : String × DataW Unit} (h : laidMet Tryz.prog (x :: y :: (tabName, Rows.laid_internal_strconv_uint64pow10) :: rest) W) : Tab W :=
  Lib.tabIs_of_head (g := 1) (t := 264) (e := 154) (n := 20) (by kernel_rfl) (by kernel_rfl) (by kernel_rfl) (by kernel_rfl) (by kernel_rfl) (by kernel_rfl) (laidMet.tail (laidMet.tail h))

end Go.Proofs.YtnehofekgnbelaaGreatDoor

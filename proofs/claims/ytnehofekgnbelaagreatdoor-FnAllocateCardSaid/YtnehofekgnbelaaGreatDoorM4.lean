/-
  Texts put together: Num.
-/
import Derived.Test.YtnehofekgnbelaaGreatDoorM1
import Derived.Deep.QuietTactic
import Derived.BigQuiet
import Derived.Lib.IndexBytes

/-
  spec.cut and spec.number: what stands ahead of a sign and behind it; a number in decimal.
-/
namespace Go.Proofs.YtnehofekgnbelaaGreatDoor
open Go.RowKit
set_option linter.unusedVariables false

/-- The bytes of a text. -/
def bl (s : ByteArray) : List UInt8 := s.data.toList
theorem bl_length (s : ByteArray) : (bl s).length = s.size := by simp [bl]
theorem bl_extract (s : ByteArray) (a b : Nat) : bl (s.extract a b) = ((bl s).drop a).take (b - a) := Lib.extract_data s a b
theorem bl_get (s : ByteArray) (k : Nat) (h : k < s.size) : (bl s)[k]'(by rw [bl_length]; exact h) = s[k] := rfl
theorem bl_drop (s : ByteArray) (k : Nat) (h : k < s.size) : (bl s).drop k = s[k] :: (bl s).drop (k + 1) := by
  rw [List.drop_eq_getElem_cons (by rw [bl_length]; exact h)]; rfl
theorem bl_take (s : ByteArray) (k : Nat) (h : k < s.size) : (bl s).take (k + 1) = (bl s).take k ++ [s[k]] := by
  rw [List.take_succ_eq_append_getElem (by rw [bl_length]; exact h)]; rfl

/-- What stands ahead of a byte, what behind it, and whether it is there. -/
def cutL (c : UInt8) : List UInt8 → List UInt8 × List UInt8 × Bool
  | [] => ([], [], false)
  | b :: r => if b = c then ([], r, true) else (b :: (cutL c r).1, (cutL c r).2.1, (cutL c r).2.2)

theorem cutL_at (c : UInt8) (p : List UInt8) (r : List UInt8) (h : ∀ b ∈ p, b ≠ c) : cutL c (p ++ c :: r) = (p, r, true) := by
  induction p with
  | nil => simp [cutL]
  | cons b p ih =>
    have hb := h b (by simp)
    simp [cutL, hb, ih (fun x hx => h x (by simp [hx]))]
theorem cutL_none (c : UInt8) (p : List UInt8) (h : ∀ b ∈ p, b ≠ c) : cutL c p = (p, [], false) := by
  induction p with
  | nil => simp [cutL]
  | cons b p ih =>
    have hb := h b (by simp)
    simp [cutL, hb, ih (fun x hx => h x (by simp [hx]))]

def CutPost (l : List UInt8) (c : UInt8) (w : World) (e : Ending) (w' : World) : Prop :=
  ∃ p q : ByteArray, e = .returned (.tuple #[.string p, .string q, .bool (cutL c l).2.2]) ∧ bl p = (cutL c l).1 ∧ bl q = (cutL c l).2.1 ∧ ∃ n, w' = w.drewN n

set_option maxHeartbeats 400000 in
theorem cut_any (s : ByteArray) (c : UInt8) (w : World) (hs : s.size ≤ 9223372036854775807) :
    Calls Tryz.prog 22 #[.string s, .int .u8 c.toNat] w (CutPost (bl s) c w) := by
  go_enter Tryz.func22, Tryz.ntmps22
  go_wp2
  go_loop [7] (fun i => ∃ k : Nat, k ≤ s.size ∧ i = .int .i64 k ∧ Hid (∀ b ∈ (bl s).take k, b ≠ c)) (fun i => s.size - (intOf i).toNat)
  case atStart => exact ⟨0, Nat.zero_le _, rfl, fun b hb => by simp at hb⟩
  case round =>
    obtain ⟨k, hk, rfl, hall⟩ := hrel
    by_cases hlt : k < s.size
    · by_cases hq : s[k] = c
      · have hb : ((s[k].toNat : Int) == (c.toNat : Int)) = true := by simp [hq]
        have HQ := Lib.hid hq
        clear hq
        go_wp2
        go_quiet (fail)
        go_wp2
        go_ret3
        have hl : bl s = (bl s).take k ++ c :: (bl s).drop (k + 1) := by
          rw [← HQ.out, ← bl_drop s k hlt, List.take_append_drop]
        have hn : cutL c (bl s) = ((bl s).take k, (bl s).drop (k + 1), true) := by
          rw [hl, cutL_at c _ _ hall.out, ← hl]
        refine ⟨s.extract 0 k, s.extract (k + 1) s.size, by rw [hn]; rfl, ?_, ?_, nq, rfl⟩
        · rw [hn]; simp [bl]
        · rw [hn]; exact Lib.extract_to_end s (k + 1)
      · have hb : ((s[k].toNat : Int) == (c.toNat : Int)) = false := by
          rw [beq_eq_false_iff_ne]
          intro h
          exact hq (UInt8.toNat_inj.1 (by omega))
        have HQ := Lib.hid hq
        clear hq
        go_wp2
        go_round
        case rel => exact ⟨k + 1, by omega, by go_num, fun b hb => by
          rw [bl_take s k hlt, List.mem_append, List.mem_singleton] at hb
          rcases hb with hb | rfl
          · exact hall.out b hb
          · exact HQ.out⟩
        case measure => simp [intOf]; omega
    · obtain rfl : k = s.size := by omega
      go_wp2
      go_ret3
      have hn := cutL_none c (bl s) (fun b hb => hall.out b (by rw [List.take_of_length_le (by rw [bl_length]; exact Nat.le_refl _)]; exact hb))
      exact ⟨s, ByteArray.empty, by rw [hn]; rfl, by rw [hn], by rw [hn]; rfl, 0, rfl⟩

theorem cut_point (s : ByteArray) (w : World) (hs : s.size ≤ 9223372036854775807) :
    Calls Tryz.prog 22 #[.string s, .int .u8 46] w (CutPost (bl s) 46 w) := cut_any s 46 w hs
theorem cut_stroke (s : ByteArray) (w : World) (hs : s.size ≤ 9223372036854775807) :
    Calls Tryz.prog 22 #[.string s, .int .u8 47] w (CutPost (bl s) 47 w) := cut_any s 47 w hs

theorem cutL_size (c : UInt8) (l : List UInt8) : (cutL c l).1.length ≤ l.length ∧ (cutL c l).2.1.length ≤ l.length := by
  induction l with
  | nil => simp [cutL]
  | cons b r ih =>
    by_cases hb : b = c
    · simp [cutL, hb]
    · simp [cutL, hb]; omega

/- NUMBERS -/
def isDig (b : UInt8) : Bool := decide (48 ≤ (b.toNat : Int) ∧ (b.toNat : Int) ≤ 57)
def valL (l : List UInt8) : Int := l.foldl (fun n b => 10 * n + ((b.toNat : Int) - 48)) 0
/-- Is this a number from 0 to 'most', in decimal without zeros ahead? -/
def numOK (most : Int) (l : List UInt8) : Bool := decide (l ≠ []) && l.all isDig && !(decide (1 < l.length) && decide (l.head? = some 48)) && decide (valL l ≤ most)
def numV (most : Int) (l : List UInt8) : Int := if numOK most l then valL l else 0

theorem valL_snoc (l : List UInt8) (b : UInt8) : valL (l ++ [b]) = 10 * valL l + ((b.toNat : Int) - 48) := by
  simp [valL, List.foldl_append]
theorem valL_nonneg (l : List UInt8) (h : l.all isDig = true) : 0 ≤ valL l := by
  have key : ∀ (l : List UInt8) (n : Int), 0 ≤ n → l.all isDig = true → 0 ≤ l.foldl (fun n b => 10 * n + ((b.toNat : Int) - 48)) n := by
    intro l
    induction l with
    | nil => intro n hn _; exact hn
    | cons b l ih =>
      intro n hn h
      rw [List.all_cons, Bool.and_eq_true] at h
      have hb : 48 ≤ (b.toNat : Int) := (of_decide_eq_true h.1).1
      exact ih _ (by show 0 ≤ 10 * n + ((b.toNat : Int) - 48); omega) h.2
  exact key l 0 (by omega) h
theorem valL_mono (l r : List UInt8) (h : (l ++ r).all isDig = true) : valL l ≤ valL (l ++ r) := by
  have key : ∀ (r : List UInt8) (n m : Int), 0 ≤ n → n ≤ m → r.all isDig = true → n ≤ r.foldl (fun n b => 10 * n + ((b.toNat : Int) - 48)) m := by
    intro r
    induction r with
    | nil => intro n m _ h _; exact h
    | cons b r ih =>
      intro n m hn hm h
      rw [List.all_cons, Bool.and_eq_true] at h
      have hb : 48 ≤ (b.toNat : Int) := (of_decide_eq_true h.1).1
      exact ih _ _ hn (by show n ≤ 10 * m + ((b.toNat : Int) - 48); omega) h.2
  rw [List.all_append, Bool.and_eq_true] at h
  unfold valL
  rw [List.foldl_append]
  exact key r _ _ (valL_nonneg l h.1) (Int.le_refl _) h.2

theorem head_bl (s : ByteArray) (h : 0 < s.size) : (bl s).head? = some s[0] := by
  have := bl_drop s 0 h
  rw [List.drop_zero] at this
  rw [this]
  rfl

theorem mem_take_bl (s : ByteArray) (k : Nat) (h : k < s.size) : s[k] ∈ bl s := by
  rw [← bl_get s k h]
  exact List.getElem_mem _

def NumPost (most : Int) (l : List UInt8) (w : World) (e : Ending) (w' : World) : Prop :=
  e = .returned (.tuple #[.int .i64 (numV most l), .bool (numOK most l)]) ∧ w = w'

theorem num_bad {most : Int} {l : List UInt8} {w : World} (h : numOK most l = false) : NumPost most l w (.returned (.tuple #[.int .i64 0, .bool false])) w := by
  unfold NumPost numV
  rw [h]
  exact ⟨rfl, rfl⟩

theorem num_over {most : Int} {l p r : List UInt8} (hl : l = p ++ r) (h : most < valL p) : numOK most l = false := by
  unfold numOK
  cases hd : l.all isDig with
  | false => simp
  | true =>
    have := valL_mono p r (by rw [← hl]; exact hd)
    rw [← hl] at this
    rw [decide_eq_false (show ¬ valL l ≤ most by omega)]
    simp
theorem num_not {most : Int} {l : List UInt8} {b : UInt8} (hb : b ∈ l) (h : isDig b = false) : numOK most l = false := by
  unfold numOK
  rw [List.all_eq_false.2 ⟨b, hb, by rw [h]; decide⟩]
  simp
theorem num_end {most : Int} {l : List UInt8} (h : l.all isDig = true) (hv : valL l ≤ most) (hz : 0 < l.length → ¬ (1 < l.length ∧ l.head? = some 48)) : numOK most l = decide (l ≠ []) := by
  unfold numOK
  rw [h, decide_eq_true hv]
  cases l with
  | nil => rfl
  | cons b r =>
    have := hz (by simp)
    cases h1 : decide (1 < (b :: r).length) with
    | false => rfl
    | true =>
      have h2 : decide ((b :: r).head? = some 48) = false := decide_eq_false fun h2 => this ⟨of_decide_eq_true h1, h2⟩
      rw [h2]; rfl

set_option maxHeartbeats 1000000 in
theorem number_any (s : ByteArray) (most : Int) (w : World) (hs : s.size ≤ 9223372036854775807) (hm0 : 0 ≤ most) (hm : most ≤ 100000000000000000) :
    Calls Tryz.prog 24 #[.string s, .int .i64 most] w (NumPost most (bl s) w) := by
  go_enter Tryz.func24, Tryz.ntmps24
  go_wp2
  go_loop [6, 7] (fun n i => ∃ k : Nat, k ≤ s.size ∧ i = .int .i64 k ∧ n = .int .i64 (valL ((bl s).take k)) ∧ Hid (((bl s).take k).all isDig = true) ∧ valL ((bl s).take k) ≤ most ∧ Hid (0 < k → ¬ (1 < s.size ∧ (bl s).head? = some 48))) (fun _ i => s.size - (intOf i).toNat)
  case atStart => exact ⟨0, Nat.zero_le _, rfl, rfl, rfl, hm0, fun h => by omega⟩
  case round =>
    obtain ⟨k, hk, rfl, rfl, hall, hv, hz⟩ := hrel
    have h0 := valL_nonneg _ hall.out
    by_cases hlt : k < s.size
    · have hts := bl_take s k hlt
      have hvs := valL_snoc ((bl s).take k) s[k]
      rw [← hts] at hvs
      have hmem := mem_take_bl s k hlt
      have hover : ∀ g : Int, valL ((bl s).take (k + 1)) = g → most < g → numOK most (bl s) = false := fun g hg h => num_over (List.take_append_drop (k + 1) (bl s)).symm (by rw [hg]; exact h)
      generalize hg : valL ((bl s).take k) = g at hv h0 hvs ⊢
      have HG := Lib.hid hg
      have HVS := Lib.hid hvs
      have HTS := Lib.hid hts
      have HMEM := Lib.hid hmem
      have HOVER := Lib.hid hover
      clear hg hvs hts hmem hover
      by_cases hd : 48 ≤ (s[k].toNat : Int) ∧ (s[k].toNat : Int) ≤ 57
      · obtain ⟨hd1, hd2⟩ := hd
        by_cases hzz : 1 < s.size ∧ s[0] = 48
        · obtain ⟨hz1, hz2⟩ := hzz
          have t1 : decide (1 < (s.size : Int)) = true := by simp; omega
          have t2 : ((s[0].toNat : Int) == 48) = true := by rw [hz2]; rfl
          have HZ2 := Lib.hid hz2
          clear hz2
          go_wp2
          go_ret2
          exact num_bad (by unfold numOK; simp only [bl_length, head_bl s (by omega), HZ2.out]; simp [hz1])
        · have hno : ¬ (1 < s.size ∧ (bl s).head? = some 48) := fun ⟨h1, h2⟩ => hzz ⟨h1, by rw [head_bl s (by omega)] at h2; exact Option.some.inj h2⟩
          have HNO := Lib.hid hno
          clear hno
          have hdig : (((bl s).take (k + 1)).all isDig) = true := by
            rw [HTS.out, List.all_append, hall.out]
            simp only [List.all_cons, List.all_nil, Bool.and_true, Bool.true_and]
            exact decide_eq_true ⟨hd1, hd2⟩
          have HDIG := Lib.hid hdig
          clear hdig
          by_cases h1 : 1 < s.size
          · have t1 : decide (1 < (s.size : Int)) = true := by simp; omega
            have t2 : ((s[0].toNat : Int) == 48) = false := by
              rw [beq_eq_false_iff_ne]
              intro h
              exact hzz ⟨h1, UInt8.toNat_inj.1 (by show s[0].toNat = 48; omega)⟩
            clear hzz
            by_cases hmo : 10 * g + ((s[k].toNat : Int) - 48) ≤ most
            · go_wp2
              go_round
              case rel => exact ⟨k + 1, by omega, by go_num, by rw [HVS.out], HDIG.out, by rw [HVS.out]; exact hmo, fun _ => HNO.out⟩
              case measure => simp [intOf]; omega
            · go_wp2
              go_ret2
              exact num_bad (HOVER.out _ HVS.out (by omega))
          · have t1 : decide (1 < (s.size : Int)) = false := by simp; omega
            clear hzz
            by_cases hmo : 10 * g + ((s[k].toNat : Int) - 48) ≤ most
            · go_wp2
              go_round
              case rel => exact ⟨k + 1, by omega, by go_num, by rw [HVS.out], HDIG.out, by rw [HVS.out]; exact hmo, fun _ => HNO.out⟩
              case measure => simp [intOf]; omega
            · go_wp2
              go_ret2
              exact num_bad (HOVER.out _ HVS.out (by omega))
      · have hnd : isDig s[k] = false := decide_eq_false hd
        have HND := Lib.hid hnd
        clear hnd
        by_cases hd1 : (s[k].toNat : Int) < 48
        · clear hd
          go_wp2
          go_ret2
          exact num_bad (num_not HMEM.out HND.out)
        · have hd2 : 57 < (s[k].toNat : Int) := by omega
          clear hd
          go_wp2
          go_ret2
          exact num_bad (num_not HMEM.out HND.out)
    · obtain rfl : k = s.size := by omega
      have htake : (bl s).take s.size = bl s := List.take_of_length_le (by rw [bl_length]; exact Nat.le_refl _)
      have HTAKE := Lib.hid htake
      clear htake
      go_wp2
      go_ret2
      have hne := num_end (most := most) (l := bl s) (by rw [← HTAKE.out]; exact hall.out) (by rw [← HTAKE.out]; exact hv) (by rw [bl_length]; exact hz.out)
      unfold NumPost numV
      have hdec : decide (bl s ≠ []) = decide (0 < s.size) := by
        rw [← bl_length]
        cases bl s <;> simp
      rw [hne, hdec]
      refine ⟨?_, rfl⟩
      by_cases h : 0 < s.size
      · simp only [h, decide_true, if_true]
        rw [HTAKE.out]; rfl
      · have he : s.size = 0 := by omega
        have hb : bl s = [] := List.eq_nil_of_length_eq_zero (by rw [bl_length]; exact he)
        rw [decide_eq_false h, hb]
        simp [valL]

end Go.Proofs.YtnehofekgnbelaaGreatDoor

/-
  strconv.Atoi of a text of one to eighteen digits.
-/
import Derived.Test.YtjoemgniakcjlaaDoorNum
import Derived.Lib.ConvBytes
namespace Go.Proofs.YtjoemgniakcjlaaDoor
open Go.RowKit
set_option linter.unusedVariables false

/-- '[]byte(s)': a new row that holds the bytes. -/
theorem conv_bytes {P : Program} (w : World) (src dst e : TypeId) (s : ByteArray) (hs : P.underlying src = some .string) (hd : P.underlying dst = some (.slice e)) (he : P.underlying e = some (.int .u8)) :
    ∃ w' cap, (convert src dst (.string s)).run P w = .ok (.slice (some ⟨w.heap.size, 0, none⟩) s.size cap) w' ∧ Below w.heap.size w w' ∧ w'.heap.size = w.heap.size + 1 ∧
      ∀ j (h : j < s.size), w'.cell? ⟨w.heap.size, j, none⟩ = some (.int .u8 s[j].toNat) := by
  refine ⟨Lib.bytesWorld w e s, _, Lib.run_convert_string_bytes w src dst e s hs hd he, ⟨?_, ?_, ?_, ?_, ?_⟩, Lib.bytesWorld_size w e s, fun j h => ?_⟩
  · simp [Lib.bytesWorld, World.freeze]; rfl
  · simp [Lib.bytesWorld, World.freeze]
  · simp [Lib.bytesWorld, World.freeze]; rfl
  · rw [Lib.bytesWorld_size]; omega
  · exact fun k hk => Lib.bytesWorld_at_old w e s k hk
  · rw [Lib.bytesWorld_cell w e s j h]
    have : s.data.toList.getD j 0 = s[j] := by
      rw [List.getD_eq_getElem?_getD, List.getElem?_eq_getElem (by simpa using h)]
      rfl
    rw [this]

def AtoiPost (v : Int) (w : World) (e : Ending) (w' : World) : Prop := e = .returned (.tuple #[.int .i64 v, .nilIface]) ∧ Below w.heap.size w w'

theorem valL_bound (l : List UInt8) (h : l.all isDig = true) (k : Nat) (hk : l.length ≤ k) : valL l ≤ 10 ^ k - 1 := by
  have key : ∀ (l : List UInt8) (n : Int), 0 ≤ n → l.all isDig = true → l.foldl (fun n b => 10 * n + ((b.toNat : Int) - 48)) n ≤ (n + 1) * 10 ^ l.length - 1 := by
    intro l
    induction l with
    | nil => intro n _ _; simp
    | cons b l ih =>
      intro n hn h
      rw [List.all_cons, Bool.and_eq_true] at h
      obtain ⟨h1, h2⟩ := of_decide_eq_true h.1
      have := ih (10 * n + ((b.toNat : Int) - 48)) (by omega) h.2
      rw [List.foldl_cons, List.length_cons, Int.pow_succ]
      refine Int.le_trans this ?_
      have hp : (0 : Int) < 10 ^ l.length := Int.pow_pos (by decide)
      have : (10 * n + ((b.toNat : Int) - 48) + 1) * 10 ^ l.length ≤ ((n + 1) * 10) * 10 ^ l.length := Int.mul_le_mul_of_nonneg_right (by omega) (Int.le_of_lt hp)
      have e : (n + 1) * (10 ^ l.length * 10) = ((n + 1) * 10) * 10 ^ l.length := by rw [Int.mul_assoc, Int.mul_comm 10]
      rw [e]
      omega
  have := key l 0 (by omega) h
  have hle : (10 : Int) ^ l.length ≤ 10 ^ k := by
    have : (10 : Nat) ^ l.length ≤ 10 ^ k := Nat.pow_le_pow_right (by decide) hk
    exact_mod_cast this
  unfold valL
  simp at this
  omega

set_option maxHeartbeats 1000000 in
set_option maxRecDepth 100000 in
theorem atoiI_any (s : ByteArray) (w : World) (h0 : 0 < s.size) (h18 : s.size < 19) (hd : (bl s).all isDig = true) :
    Calls Tryd.prog 31 #[.string s] w (AtoiPost (valL (bl s)) w) := by
  have hdig : ∀ k (h : k < s.size), 48 ≤ (s[k].toNat : Int) ∧ (s[k].toNat : Int) ≤ 57 := fun k h => of_decide_eq_true (List.all_eq_true.1 hd _ (mem_take_bl s k h))
  obtain ⟨hz1, hz2⟩ := hdig 0 h0
  have t1 : ((s[0].toNat : Int) == 45) = false := beq_eq_false_iff_ne.2 (by omega)
  have t2 : ((s[0].toNat : Int) == 43) = false := beq_eq_false_iff_ne.2 (by omega)
  have t3 : decide ((s.size : Int) < 19) = true := by simp; omega
  have hbound : ∀ k, k < s.size → 0 ≤ valL ((bl s).take k) ∧ valL ((bl s).take k) ≤ 10 ^ 17 - 1 := fun k hks =>
    have hk : ((bl s).take k).all isDig = true := List.all_eq_true.2 fun x hx => List.all_eq_true.1 hd x (List.mem_of_mem_take hx)
    ⟨valL_nonneg _ hk, valL_bound _ hk 17 (by rw [List.length_take, bl_length]; omega)⟩
  have HB := Lib.hid hbound
  have HD := Lib.hid hdig
  obtain ⟨w1, cap, hrun, hb1, hz, hcells⟩ := conv_bytes (P := Tryd.prog) w 9 70 5 s Tryd.underlying9 Tryd.underlying70 Tryd.underlying5
  have HC := Lib.hid hcells
  have HB1 := Lib.hid hb1
  clear hdig hd hbound hcells hb1 hz
  go_enter Tryd.func31, Tryd.ntmps31
  go_wp2
  go_loop [6, 49] (fun n i => ∃ k : Nat, k ≤ s.size ∧ i = .int .i64 k ∧ n = .int .i64 (valL ((bl s).take k))) (fun _ i => s.size - (intOf i).toNat)
  case atStart => exact ⟨0, Nat.zero_le _, rfl, rfl⟩
  case round =>
    obtain ⟨k, hk, rfl, rfl⟩ := hrel
    by_cases hlt : k < s.size
    · obtain ⟨hb0, hb9⟩ := HB.out k hlt
      have hts := bl_take s k hlt
      have hvs := valL_snoc ((bl s).take k) s[k]
      rw [← hts] at hvs
      have hcell := HC.out k hlt
      obtain ⟨hd1, hd2⟩ := HD.out k hlt
      generalize hg : valL ((bl s).take k) = g at hb0 hb9 hvs ⊢
      have HVS := Lib.hid hvs
      clear hts hvs hg
      have hb9' : g ≤ 99999999999999999 := by simpa using hb9
      clear hb9
      go_wp2
      go_round
      case rel => exact ⟨k + 1, by omega, by go_num, by rw [HVS.out]; go_num⟩
      case measure => simp [intOf]; omega
    · obtain rfl : k = s.size := by omega
      have htake : (bl s).take s.size = bl s := List.take_of_length_le (by rw [bl_length]; exact Nat.le_refl _)
      rw [htake]
      clear htake
      go_wp2
      go_ret2
      exact ⟨rfl, HB1.out⟩

theorem atoi_any (s : ByteArray) (w : World) (h0 : 0 < s.size) (h18 : s.size < 19) (hd : (bl s).all isDig = true) :
    Calls Tryd.prog 26 #[.string s] w (AtoiPost (valL (bl s)) w) := by
  go_enter Tryd.func26, Tryd.ntmps26
  go_wp2_with (go_at_call 31; refine (atoiI_any s _ h0 h18 hd).mono ?_; rintro e w' ⟨rfl, hb⟩)
  go_ret2
  exact ⟨rfl, hb⟩

end Go.Proofs.YtjoemgniakcjlaaDoor

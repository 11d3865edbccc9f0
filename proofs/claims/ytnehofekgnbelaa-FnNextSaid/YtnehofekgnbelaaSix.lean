/-
  The reference: an address of sixteen bytes as text.
-/
import Derived.Test.YtnehofekgnbelaaSpec
namespace Go.Proofs.Ytnehofekgnbelaa
open Go.RowKit
set_option linter.unusedVariables false
set_option maxRecDepth 100000
set_option maxHeartbeats 1000000

theorem hexL_of {n : Nat} (h : 0 < n) : hexL n = hexL (n / 16) ++ [hexDig (n % 16)] := by
  rw [hexL, if_pos h]
theorem hexL_zero : hexL 0 = [] := by
  rw [hexL, if_neg (by omega)]
theorem hexL_length (k : Nat) : ∀ n, n < 16 ^ k → (hexL n).length ≤ k := by
  induction k with
  | zero => intro n h; obtain rfl : n = 0 := by simpa using h
            rw [hexL_zero]; exact Nat.le_refl _
  | succ k ih =>
    intro n h
    by_cases h0 : 0 < n
    · rw [hexL_of h0, List.length_append]
      have := ih (n / 16) (by rw [Nat.pow_succ] at h; omega)
      simp; omega
    · obtain rfl : n = 0 := by omega
      rw [hexL_zero]; exact Nat.zero_le _

def SixRel (w : World) (n m : Nat) (t : ByteArray) (wr : World) : Prop := hexL m ++ bl t = hexL n ∧ Below w.heap.size w wr

theorem hex_at (d : Nat) (h : d < 16) : (⟨#[48, 49, 50, 51, 52, 53, 54, 55, 56, 57, 97, 98, 99, 100, 101, 102]⟩ : ByteArray)[d]'h = hexDig d := by
  have : ∀ d : Fin 16, (⟨#[48, 49, 50, 51, 52, 53, 54, 55, 56, 57, 97, 98, 99, 100, 101, 102]⟩ : ByteArray)[d.val]'d.isLt = hexDig d.val := by decide
  exact this ⟨d, h⟩
theorem six_round {w wr : World} {n m d : Nat} {t : ByteArray} {o : Obj} (hm : m ≤ n) (h0 : 0 < m) (hd : d = m % 16) (hd16 : d < 16) (he : hexL m = hexL (m / 16) ++ [hexDig (m % 16)]) (hl : (hexL n).length ≤ 8) (h : SixRel w n m t wr) :
    ∃ (m' : Nat) (t' : ByteArray), Value.string (⟨#[(⟨#[48, 49, 50, 51, 52, 53, 54, 55, 56, 57, 97, 98, 99, 100, 101, 102]⟩ : ByteArray)[d]'hd16]⟩ ++ t) = .string t' ∧ Value.int .u32 ((m : Int) / 16) = .int .u32 m' ∧ m' ≤ n ∧ t'.size ≤ 8 ∧ Hid (SixRel w n m' t' (wr.alloc o)) := by
  have e : hexL (m / 16) ++ bl (⟨#[(⟨#[48, 49, 50, 51, 52, 53, 54, 55, 56, 57, 97, 98, 99, 100, 101, 102]⟩ : ByteArray)[d]'hd16]⟩ ++ t) = hexL n := by
    rw [← h.1, he, bl_add, hex_at d hd16, hd]
    simp [bl]
  refine ⟨m / 16, _, rfl, by simp, by omega, ?_, e, h.2.alloc h.2.size _⟩
  have := congrArg List.length e
  rw [List.length_append, bl_length] at this
  omega

theorem text_six (n : Nat) (w : World) (hn : n < 4294967296) : Calls Try.prog 29 #[adv ⟨true, n⟩] w (TextPost w (preL ++ hexL n)) := by
  have kc := fun (w : World) (d : Int) => conv_num (P := Try.prog) w 45 9 5 d 0 0 w.heap.size rfl Try.underlying45 Try.underlying5 Try.underlying9
  have hlen := hexL_length 8 n (by omega)
  have HL := Lib.hid hlen
  clear hlen
  unfold adv
  go_enter Try.func29, Try.ntmps29
  go_wp2_with fail
  go_loopw [3, 5] (fun o v wr => ∃ (m : Nat) (t : ByteArray), o = .string t ∧ v = .int .u32 m ∧ m ≤ n ∧ t.size ≤ 8 ∧ Hid (SixRel w n m t wr)) (fun _ v _ => (intOf v).toNat)
  case atStart => exact ⟨n, ⟨#[]⟩, rfl, rfl, Nat.le_refl _, Nat.zero_le _, by simp [bl], (Below.refl w.heap.size w).alloc (Nat.le_refl _) _⟩
  case round =>
    obtain ⟨m, t, rfl, rfl, hm, hz, hr⟩ := hrel
    by_cases h0 : 0 < m
    · have t1 : decide ((0 : Int) < m) = true := decide_eq_true (by omega)
      have HE := Lib.hid (hexL_of h0)
      have b0 := and15 m (by omega) (by omega)
      obtain ⟨d, hd⟩ : ∃ d, d = m % 16 := ⟨_, rfl⟩
      have b1 : bits .and .u32 (m : Int) 15 = (d : Int) := by rw [b0]; omega
      have hd16 : d < 16 := by omega
      have HD := Lib.hid hd
      clear b0 hd
      go_wp2_with fail
      go_roundw
      case rel => exact six_round hm h0 HD.out hd16 HE.out HL.out hr.out
      case measure => simp [intOf]; omega
    · obtain rfl : m = 0 := by omega
      go_wp2_with fail
      go_ret
      exact ⟨_, rfl, by rw [bl_add, ← hr.out.1, hexL_zero]; rfl, hr.out.2⟩

end Go.Proofs.Ytnehofekgnbelaa

/-
  netip.Addr of four bytes: z4, AddrFrom4, parseIPv4.
-/
import Derived.Test.YtnehofekgnbelaaFields
import Derived.Test.YtnehofekgnbelaaCmp
import Derived.Laws.Bits64b
namespace Go.Proofs.Ytnehofekgnbelaa
open Go.RowKit
set_option linter.unusedVariables false
set_option maxRecDepth 100000
set_option maxHeartbeats 1000000

/-- The values of netip: an address's halves, and what kind it is. -/
def detail (six : Bool) : Value := .agg #[.bool true, .bool six, .string ⟨#[]⟩]
def naddr (hi lo : Nat) (six : Bool) : Value := .agg #[.int .u64 hi, .int .u64 lo, .bool true, .bool six, .string ⟨#[]⟩]
def BelowPost (w : World) (v : Value) (e : Ending) (w' : World) : Prop := e = .returned v ∧ Below w.heap.size w w'

theorem z4_any (w : World) : Calls Try.prog 92 #[] w (BelowPost w (detail false)) := by
  go_enter Try.func92, Try.ntmps92
  go_wp2_with fail
  exact bodyPost_ret (v := detail false) (by simp [results, Try.results92, go_sem, detail]) rfl ⟨rfl, (Below.refl w.heap.size w).alloc (Nat.le_refl _) _⟩

theorem z6noz_any (w : World) : Calls Try.prog 106 #[] w (BelowPost w (detail true)) := by
  go_enter Try.func106, Try.ntmps106
  go_wp2_with fail
  exact bodyPost_ret (v := detail true) (by simp [results, Try.results106, go_sem, detail]) rfl ⟨rfl, (Below.refl w.heap.size w).alloc (Nat.le_refl _) _⟩

theorem z0_any (w : World) : Calls Try.prog 91 #[] w (BelowPost w (.agg #[.bool false, .bool false, .string ⟨#[]⟩])) := by
  go_enter Try.func91, Try.ntmps91
  go_wp2_with fail
  exact bodyPost_ret (v := .agg #[.bool false, .bool false, .string ⟨#[]⟩]) (by simp [results, Try.results91, go_sem]) rfl ⟨rfl, (Below.refl w.heap.size w).alloc (Nat.le_refl _) _⟩

/- BYTES AS A NUMBER -/
theorem w64 (n : Int) (h0 : 0 ≤ n) (h1 : n < 2 ^ 64) : IntKind.u64.wrap n = n := by rw [IntKind.wrap_u64]; omega
theorem or64 (i : Nat) (x y : Int) (h0 : 0 ≤ x) (hx : x % 2 ^ i = 0) (h1 : x < 18446744073709551616) (y0 : 0 ≤ y) (y1 : y < 2 ^ i) (y2 : y < 18446744073709551616) : bits .or .u64 x y = x + y :=
  bits_join .u64 64 (by decide) w64 i x y h0 hx h1 y0 y1 y2

theorem val_snoc (l : List UInt8) (x : UInt8) : val (l ++ [x]) = val l * 256 + x.toNat := by
  rw [val_append]; simp [val]

theorem beUint64_any (b off cap : Nat) (bs : List UInt8) (w : World) (h : IPAt w (.slice (some ⟨b, off, none⟩) 8 cap) bs) :
    Calls Try.prog 105 #[.slice (some ⟨b, off, none⟩) 8 cap] w (fun e w' => e = .returned (.int .u64 (val bs)) ∧ w = w') := by
  obtain ⟨hl, hb, hcap, hcm, hc⟩ := h.facts
  have c7 : w.cell? ⟨b, off + 7, none⟩ = some (.int .u8 (bs.getD 7 0).toNat) := hc 7 (by omega)
  have hlt : ∀ k, k ≤ 8 → val (bs.take k) < 256 ^ k := fun k hk => by
    have := val_lt (bs.take k)
    rw [List.length_take, hl, Nat.min_eq_left hk] at this
    exact this
  have HC := Lib.hid hc
  have HL := Lib.hid hl
  have HLT := Lib.hid hlt
  clear hc hl hlt h
  go_enter Try.func105, Try.ntmps105
  go_wp2_with fail
  go_loop [3, 4] (fun v i => ∃ (k n : Nat), k ≤ 8 ∧ i = .int .i64 k ∧ v = .int .u64 n ∧ Hid (n = val (bs.take k))) (fun _ i => 8 - (intOf i).toNat)
  case atStart => exact ⟨0, 0, by omega, rfl, rfl, rfl⟩
  case round =>
    obtain ⟨k, n, hk, rfl, rfl, hn⟩ := hrel
    by_cases h8 : k = 8
    · subst h8
      have e : bs.take 8 = bs := List.take_of_length_le (by rw [HL.out]; exact Nat.le_refl _)
      have HN : Hid (n = val bs) := by rw [← e]; exact hn.out
      clear e hn
      go_wp2_with fail
      go_ret
      exact ⟨by rw [HN.out]; rfl, rfl⟩
    · have t1 : decide ((k : Int) < 8) = true := decide_eq_true (by omega)
      have ck := HC.out k (by omega)
      have hvs := val_snoc (bs.take k) (bs.getD k 0)
      rw [← take_getD bs k (by rw [HL.out]; omega), ← hn.out] at hvs
      have hlt := HLT.out (k + 1) (by omega)
      rw [hvs] at hlt
      have h64 : (256 : Nat) ^ (k + 1) ≤ 18446744073709551616 := Nat.pow_le_pow_right (n := 256) (by decide) (show k + 1 ≤ 8 by omega)
      generalize bs.getD k 0 = x at ck hvs hlt
      have hx := x.toNat_lt
      obtain ⟨m, hm⟩ : ∃ m, m = n * 256 + x.toNat := ⟨_, rfl⟩
      have b0 : IntKind.u64.wrap ((n : Int) * 256) = (n : Int) * 256 := w64 _ (by omega) (by omega)
      have b1 : bits .or .u64 ((n : Int) * 256) (x.toNat : Int) = (m : Int) := by
        rw [or64 8 _ _ (by omega) (by omega) (by omega) (by omega) (by omega) (by omega)]
        omega
      have HVS := Lib.hid hvs
      have HM := Lib.hid hm
      have HL2 := Lib.hid hlt
      have H64 := Lib.hid h64
      clear hvs hm hlt h64 hn
      go_wp2_with fail
      go_round
      case rel => exact ⟨k + 1, m, by omega, by go_num, rfl, by rw [HM.out, HVS.out]; rfl⟩
      case measure => simp [intOf]; omega

end Go.Proofs.Ytnehofekgnbelaa

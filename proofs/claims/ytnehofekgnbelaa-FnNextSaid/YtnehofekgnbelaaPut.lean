/-
  netip: bePutUint64.
-/
import Derived.Test.YtnehofekgnbelaaZone
import Derived.Laws.Bits64b
namespace Go.Proofs.Ytnehofekgnbelaa
open Go.RowKit
set_option linter.unusedVariables false
set_option maxRecDepth 100000
set_option maxHeartbeats 1000000

structure RowRel (w : World) (B : Nat) (T : TypeId) (cs : Array Value) (wr : World) : Prop where
  row : wr.heap[B]? = some (.cells cs T (0, 0))
  below : ∀ w0 : World, Below w0.heap.size w0 w → w0.heap.size ≤ B → Below w0.heap.size w0 wr
  other : ∀ k, k ≠ B → wr.heap[k]? = w.heap[k]?
/-- The k-th of eight bytes of a number. -/
def bt (v k : Nat) : Value := .int .u8 ((v / 256 ^ (7 - k) % 256 : Nat) : Int)
def put8 (cs : Array Value) (off v : Nat) : Nat → Array Value
  | 0 => cs
  | k + 1 => (put8 cs off v k).setIfInBounds (off + k) (bt v k)
theorem put8_size (cs : Array Value) (off v k : Nat) : (put8 cs off v k).size = cs.size := by
  induction k with
  | zero => rfl
  | succ k ih => simp [put8, ih]
theorem RowRel.next {w wr : World} {B : Nat} {T : TypeId} {cs : Array Value} {off v k o : Nat} {x : Value} (h : RowRel w B T (put8 cs off v k) wr) (ho : o = off + k) (hx : x = bt v k) :
    RowRel w B T (put8 cs off v (k + 1)) (wr.setCell ⟨B, o, none⟩ x) := by
  subst ho hx
  refine ⟨?_, fun w0 h0 hB => (h.below w0 h0 hB).setCell hB _, fun j hj => by rw [Below.heap_setCell _ _ _ _ hj]; exact h.other j hj⟩
  exact heap_setCell_same wr B (off + k) _ T _ h.row
theorem row_cell {w wr : World} {B : Nat} {T : TypeId} {cs : Array Value} (h : RowRel w B T cs wr) (i : Nat) (hi : i < cs.size) : ∃ x, wr.cell? ⟨B, i, none⟩ = some x :=
  ⟨cs[i], by rw [cell_of_row wr B i cs T (0, 0) h.row]; simp [hi]⟩

theorem put_byte0 (v : Nat) (hv : v < 18446744073709551616) : Value.int .u8 ((v : Int) / 72057594037927936) = bt v 0 := by
  unfold bt
  have e : (256 : Nat) ^ (7 - 0) = 72057594037927936 := by decide
  rw [e]
  congr 1 <;> omega
theorem put_byte1 (v : Nat) (hv : v < 18446744073709551616) : Value.int .u8 ((v : Int) / 281474976710656 % 256) = bt v 1 := by
  unfold bt
  have e : (256 : Nat) ^ (7 - 1) = 281474976710656 := by decide
  rw [e]
  congr 1 <;> omega
theorem put_byte2 (v : Nat) (hv : v < 18446744073709551616) : Value.int .u8 ((v : Int) / 1099511627776 % 256) = bt v 2 := by
  unfold bt
  have e : (256 : Nat) ^ (7 - 2) = 1099511627776 := by decide
  rw [e]
  congr 1 <;> omega
theorem put_byte3 (v : Nat) (hv : v < 18446744073709551616) : Value.int .u8 ((v : Int) / 4294967296 % 256) = bt v 3 := by
  unfold bt
  have e : (256 : Nat) ^ (7 - 3) = 4294967296 := by decide
  rw [e]
  congr 1 <;> omega
theorem put_byte4 (v : Nat) (hv : v < 18446744073709551616) : Value.int .u8 ((v : Int) / 16777216 % 256) = bt v 4 := by
  unfold bt
  have e : (256 : Nat) ^ (7 - 4) = 16777216 := by decide
  rw [e]
  congr 1 <;> omega
theorem put_byte5 (v : Nat) (hv : v < 18446744073709551616) : Value.int .u8 ((v : Int) / 65536 % 256) = bt v 5 := by
  unfold bt
  have e : (256 : Nat) ^ (7 - 5) = 65536 := by decide
  rw [e]
  congr 1 <;> omega
theorem put_byte6 (v : Nat) (hv : v < 18446744073709551616) : Value.int .u8 ((v : Int) / 256 % 256) = bt v 6 := by
  unfold bt
  have e : (256 : Nat) ^ (7 - 6) = 256 := by decide
  rw [e]
  congr 1 <;> omega
theorem put_byte7 (v : Nat) (hv : v < 18446744073709551616) : Value.int .u8 ((v : Int) % 256) = bt v 7 := by
  unfold bt
  have e : (256 : Nat) ^ (7 - 7) = 1 := by decide
  rw [e]
  congr 1 <;> omega
attribute [irreducible] bt

theorem bePut_any (B off v cap : Nat) (T : TypeId) (cs : Array Value) (w : World) (hrow : w.heap[B]? = some (.cells cs T (0, 0))) (hv : v < 18446744073709551616) (ho : off + 8 ≤ cs.size) (hcap : 8 ≤ cap) (hcm : cap ≤ 1000) (hoff : off ≤ 1000) :
    Calls Try.prog 104 #[.slice (some ⟨B, off, none⟩) 8 cap, .int .u64 v] w (fun e w' => e = .returned (.tuple #[]) ∧ RowRel w B T (put8 cs off v 8) w') := by
  have hr0 : RowRel w B T (put8 cs off v 0) w := ⟨hrow, fun w0 h0 _ => h0, fun k _ => rfl⟩
  obtain ⟨x7, c7⟩ := row_cell hr0 (off + 7) (by rw [put8_size]; omega)
  have HR0 := Lib.hid hr0
  clear hr0 hrow
  go_enter Try.func104, Try.ntmps104
  go_wp2_with fail
  go_loopw [4] (fun i wr => ∃ k : Nat, k ≤ 8 ∧ i = .int .i64 k ∧ Hid (RowRel w B T (put8 cs off v k) wr)) (fun i _ => 8 - (intOf i).toNat)
  case atStart => exact ⟨0, by omega, rfl, HR0.out⟩
  case round =>
    obtain ⟨k, hk, rfl, hr⟩ := hrel
    by_cases h8 : k = 8
    · subst h8
      go_wp2_with fail
      go_end0
      exact ⟨rfl, hr.out⟩
    · obtain ⟨x, ck⟩ := row_cell hr.out (off + k) (by rw [put8_size]; omega)
      have zk : wr.frozen? ⟨B, off + k, none⟩ = false := frozen_of_row wr _ _ _ _ hr.out.row
      obtain rfl | rfl | rfl | rfl | rfl | rfl | rfl | rfl : k = 0 ∨ k = 1 ∨ k = 2 ∨ k = 3 ∨ k = 4 ∨ k = 5 ∨ k = 6 ∨ k = 7 := by omega
      · simp only [Nat.add_zero] at ck zk
        go_wp2_with fail
        go_roundw
        case rel => exact ⟨1, by omega, rfl, hr.out.next rfl (put_byte0 v hv)⟩
        case measure => simp [intOf]
      · go_wp2_with fail
        go_roundw
        case rel => exact ⟨2, by omega, rfl, hr.out.next rfl (put_byte1 v hv)⟩
        case measure => simp [intOf]
      · go_wp2_with fail
        go_roundw
        case rel => exact ⟨3, by omega, rfl, hr.out.next rfl (put_byte2 v hv)⟩
        case measure => simp [intOf]
      · go_wp2_with fail
        go_roundw
        case rel => exact ⟨4, by omega, rfl, hr.out.next rfl (put_byte3 v hv)⟩
        case measure => simp [intOf]
      · go_wp2_with fail
        go_roundw
        case rel => exact ⟨5, by omega, rfl, hr.out.next rfl (put_byte4 v hv)⟩
        case measure => simp [intOf]
      · go_wp2_with fail
        go_roundw
        case rel => exact ⟨6, by omega, rfl, hr.out.next rfl (put_byte5 v hv)⟩
        case measure => simp [intOf]
      · go_wp2_with fail
        go_roundw
        case rel => exact ⟨7, by omega, rfl, hr.out.next rfl (put_byte6 v hv)⟩
        case measure => simp [intOf]
      · go_wp2_with fail
        go_roundw
        case rel => exact ⟨8, by omega, rfl, hr.out.next rfl (put_byte7 v hv)⟩
        case measure => simp [intOf]

end Go.Proofs.Ytnehofekgnbelaa

/-
  The reference: decimal numbers, an address as text, the address of a text.
-/
import Derived.Test.YtnehofekgnbelaaNum
import Derived.Test.YtnehofekgnbelaaVal
import Derived.Laws.IdiomStrings
import Derived.Deep.RegionHeld3
namespace Go.Proofs.Ytnehofekgnbelaa
open Go.RowKit
set_option linter.unusedVariables false
set_option maxRecDepth 100000
set_option maxHeartbeats 1000000

/-- A text of one byte, made of a new row. -/
theorem conv_num {P : Program} (w : World) (src dst e : TypeId) (d : Int) (n c : Nat) (b : Nat) (hb : b = w.heap.size) (hs : P.underlying src = some (.slice e)) (he : P.underlying e = some (.int .u8)) (hd : P.underlying dst = some .string) :
    (convert src dst (.slice (some ⟨b, 0, none⟩) 1 1)).run P (w.alloc (.cells #[.int .u8 d] e (n, c))) = .ok (.string ⟨#[UInt8.ofNat d.toNat]⟩) (w.alloc (.cells #[.int .u8 d] e (n, c))) := by
  subst hb
  rw [run_convert_bytes_string _ src dst e _ 1 1 hs he hd]
  have hl := run_loadCells_list (P := P) (w.alloc (.cells #[.int .u8 d] e (n, c))) ⟨w.heap.size, 0, none⟩ [.int .u8 d] (fun j v hj => by
    have hj' : j < 1 := (List.getElem?_eq_some_iff.1 hj).1
    obtain rfl : j = 0 := by omega
    have h := World.cell?_alloc_mark w #[.int .u8 d] e (n, c) 0
    rw [Addr.add_lit, Nat.add_zero, h]
    simpa using hj)
  exact run_bytesToString _ ⟨w.heap.size, 0, none⟩ 1 1 [d] hl

/-- A number in decimal. -/
def decL (n : Nat) : List UInt8 := if 9 < n then decL (n / 10) ++ [UInt8.ofNat (48 + n % 10)] else [UInt8.ofNat (48 + n % 10)]
termination_by n
decreasing_by omega

def TextPost (w : World) (l : List UInt8) (e : Ending) (w' : World) : Prop := ∃ s, e = .returned (.string s) ∧ bl s = l ∧ Below w.heap.size w w'

theorem decL_of {n : Nat} (h : 9 < n) : decL n = decL (n / 10) ++ [UInt8.ofNat (48 + n % 10)] := by
  rw [decL, if_pos h]
theorem decL_small {n : Nat} (h : ¬ 9 < n) : decL n = [UInt8.ofNat (48 + n % 10)] := by
  rw [decL, if_neg h]
theorem bl_add (a b : ByteArray) : bl (a ++ b) = bl a ++ bl b := by simp [bl]
theorem decL_length (k : Nat) : ∀ n, n < 10 ^ (k + 1) → (decL n).length ≤ k + 1 := by
  induction k with
  | zero => intro n h; rw [decL_small (by omega)]; simp
  | succ k ih =>
    intro n h
    by_cases h9 : 9 < n
    · rw [decL_of h9, List.length_append]
      have := ih (n / 10) (by rw [Nat.pow_succ] at h; omega)
      simp; omega
    · rw [decL_small h9]; simp
theorem size_of_dec {s : ByteArray} {n : Nat} (h : bl s = decL n) (hn : n ≤ 4294967296) : s.size ≤ 10 := by
  rw [← bl_length, h]
  exact decL_length 9 n (by omega)
theorem int_div10 (n : Nat) : ((n : Int) / 10) = ((n / 10 : Nat) : Int) := by simp

theorem decimal_any (n : Nat) : ∀ (w : World), n ≤ 4294967296 → Calls Try.prog 52 #[.int .i64 n] w (TextPost w (decL n)) := by
  induction n using Nat.strongRecOn with
  | _ n ih =>
    intro w hm
    have kc := fun (w : World) (d : Int) => conv_num (P := Try.prog) w 45 9 5 d 0 0 w.heap.size rfl Try.underlying45 Try.underlying5 Try.underlying9
    by_cases h9 : 9 < n
    · have t1 : decide ((9 : Int) < n) = true := decide_eq_true (by omega)
      have IH := Lib.hid (fun w => ih (n / 10) (by omega) w (by omega))
      have HE := Lib.hid (decL_of h9)
      clear ih
      go_enter Try.func52, Try.ntmps52
      go_wp2_with fail
      rw [int_div10]
      refine (IH.out _).mono ?_
      rintro e w' ⟨s, rfl, hs, hb⟩
      have hz := size_of_dec hs (by omega)
      have HS := Lib.hid hs
      have HB := Lib.hid hb
      clear hs hb
      go_wp2_with fail
      go_ret
      exact ⟨_, ret_str rfl, by rw [bl_add, HS.out, HE.out]; simp [bl], below_tr ((Below.refl w.heap.size w).alloc (Nat.le_refl _) _) HB.out⟩
    · have t1 : decide ((9 : Int) < n) = false := decide_eq_false (by omega)
      have HE := Lib.hid (decL_small h9)
      clear ih
      go_enter Try.func52, Try.ntmps52
      go_wp2_with fail
      go_ret
      exact ⟨_, rfl, by rw [HE.out]; rfl, (Below.refl w.heap.size w).alloc (Nat.le_refl _) _⟩

/-- The number of sixteens' digits, without zeros ahead; nothing of nought. -/
def hexDig (d : Nat) : UInt8 := if d < 10 then UInt8.ofNat (48 + d) else UInt8.ofNat (87 + d)
def hexL (n : Nat) : List UInt8 := if 0 < n then hexL (n / 16) ++ [hexDig (n % 16)] else []
termination_by n
decreasing_by omega
/-- "2001:db8::" -/
def preL : List UInt8 := [50, 48, 48, 49, 58, 100, 98, 56, 58, 58]
def quadL (n : Nat) : List UInt8 := decL (n / 16777216) ++ 46 :: (decL (n / 65536 % 256) ++ 46 :: (decL (n / 256 % 256) ++ 46 :: decL (n % 256)))
def Ad.text (a : Ad) : List UInt8 := if a.six then preL ++ hexL a.n else quadL a.n
/-- The value of an address in the reference. -/
def adv (a : Ad) : Value := .agg #[.bool a.six, .int .u32 a.n]

theorem w32 (n : Int) (h0 : 0 ≤ n) (h1 : n < 2 ^ 32) : IntKind.u32.wrap n = n := by rw [IntKind.wrap_u32]; omega
theorem and255 (x : Int) (h0 : 0 ≤ x) (h1 : x < 4294967296) : bits .and .u32 x 255 = x % 256 := bits_mask .u32 32 (by decide) w32 8 (by decide) x h0 h1
theorem and15 (x : Int) (h0 : 0 ≤ x) (h1 : x < 4294967296) : bits .and .u32 x 15 = x % 16 := bits_mask .u32 32 (by decide) w32 4 (by decide) x h0 h1
theorem or8 (x y : Int) (h0 : 0 ≤ x) (hx : x % 256 = 0) (h1 : x < 4294967296) (y0 : 0 ≤ y) (y1 : y < 256) : bits .or .u32 x y = x + y :=
  bits_join .u32 32 (by decide) w32 8 x y h0 (by omega) (by omega) y0 (by omega) (by omega)
theorem or4 (x y : Int) (h0 : 0 ≤ x) (hx : x % 16 = 0) (h1 : x < 4294967296) (y0 : 0 ≤ y) (y1 : y < 16) : bits .or .u32 x y = x + y :=
  bits_join .u32 32 (by decide) w32 4 x y h0 (by omega) (by omega) y0 (by omega) (by omega)
theorem wr64 (n : Int) (h0 : 0 ≤ n) (h1 : n < 4294967296) : IntKind.i64.wrap n = n := by rw [IntKind.wrap_i64]; omega

theorem held_box (w : World) (x y : Value) (t : TypeId) (n : Nat) (hy : y = .int .u32 n) : (w.alloc (.cells #[x, y] t)).drew.cell? ⟨w.heap.size, 1, none⟩ = some (.int .u32 n) ∧ Hid (Below w.heap.size w (w.alloc (.cells #[x, y] t)).drew ∧ w.heap.size < (w.alloc (.cells #[x, y] t)).drew.heap.size) := by
  subst hy
  refine ⟨?_, below_drewN ((Below.refl w.heap.size w).alloc (Nat.le_refl _) _) 1, by simp⟩
  have := World.cell?_alloc_mark w #[x, .int .u32 n] t (0, 0) 1
  simp at this ⊢
  first | exact this | skip
theorem held_on {w w1 w2 : World} {v : Value} (h : w1.cell? ⟨w.heap.size, 1, none⟩ = some v ∧ Hid (Below w.heap.size w w1 ∧ w.heap.size < w1.heap.size)) (hb : Below w1.heap.size w1 w2) :
    w2.cell? ⟨w.heap.size, 1, none⟩ = some v ∧ Hid (Below w.heap.size w w2 ∧ w.heap.size < w2.heap.size) :=
  ⟨(hb.cell h.2.out.2).trans h.1, below_tr h.2.out.1 hb, Nat.lt_of_lt_of_le h.2.out.2 hb.size⟩

end Go.Proofs.Ytnehofekgnbelaa

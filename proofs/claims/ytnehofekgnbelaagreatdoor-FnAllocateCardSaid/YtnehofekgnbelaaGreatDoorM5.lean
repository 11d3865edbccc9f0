/-
  Texts put together: Spec, Six, Text.
-/
import Derived.Test.YtnehofekgnbelaaGreatDoorM4
import Derived.Test.YtnehofekgnbelaaGreatDoorM1
import Derived.Laws.IdiomStrings
import Derived.Deep.RegionHeld3

/-
  The reference: decimal numbers, an address as text, the address of a text.
-/
namespace Go.Proofs.YtnehofekgnbelaaGreatDoor
open Go.RowKit
set_option linter.unusedVariables false
set_option maxRecDepth 100000
set_option maxHeartbeats 1000000

/-- A text of one byte, made of a new row. -/
theorem conv_num {P : Program} (w : World) (src dst e : TypeId) (d : Int) (n c : Nat) (b : Nat) (hb : b = w.heap.size) (hs : P.underlying src = some (.slice e)) (he : P.underlying e = some (.int .u8)) (hd : P.underlying dst = some .string) :
    (convert src dst (.slice (some ⟨b, 0, none⟩) 1 1)).run P (w.alloc (.cells #[.int .u8 d] e (n, c))) = .ok (.string ⟨#[UInt8.ofNat d.toNat]⟩) (w.alloc (.cells #[.int .u8 d] e (n, c))) := by
  subst hb
  rw [run_convert_bytes_string _ src dst e _ 1 1 hs he hd]
  have hl := run_loadCells_list (P := P) (w.alloc (.cells #[.int .u8 d] e (n, c))) ⟨w.heap.size, 0, none⟩ [.int .u8 d] (fun j v hj => by
    have hj' : j < 1 := (List.getElem?_eq_some_iff.1 hj).1
    obtain rfl : j = 0 := by omega
    have h := World.cell?_alloc_mark w #[.int .u8 d] e (n, c) 0
    rw [Addr.add_lit, Nat.add_zero, h]
    simpa using hj)
  exact run_bytesToString _ ⟨w.heap.size, 0, none⟩ 1 1 [d] hl

/-- A number in decimal. -/
def decL (n : Nat) : List UInt8 := if 9 < n then decL (n / 10) ++ [UInt8.ofNat (48 + n % 10)] else [UInt8.ofNat (48 + n % 10)]
termination_by n
decreasing_by omega

def TextPost (w : World) (l : List UInt8) (e : Ending) (w' : World) : Prop := ∃ s, e = .returned (.string s) ∧ bl s = l ∧ Below w.heap.size w w'

theorem decL_of {n : Nat} (h : 9 < n) : decL n = decL (n / 10) ++ [UInt8.ofNat (48 + n % 10)] := by
  rw [decL, if_pos h]
theorem decL_small {n : Nat} (h : ¬ 9 < n) : decL n = [UInt8.ofNat (48 + n % 10)] := by
  rw [decL, if_neg h]
theorem bl_add (a b : ByteArray) : bl (a ++ b) = bl a ++ bl b := by simp [bl]
theorem decL_length (k : Nat) : ∀ n, n < 10 ^ (k + 1) → (decL n).length ≤ k + 1 := by
  induction k with
  | zero => intro n h; rw [decL_small (by omega)]; simp
  | succ k ih =>
    intro n h
    by_cases h9 : 9 < n
    · rw [decL_of h9, List.length_append]
      have := ih (n / 10) (by rw [Nat.pow_succ] at h; omega)
      simp; omega
    · rw [decL_small h9]; simp
theorem size_of_dec {s : ByteArray} {n : Nat} (h : bl s = decL n) (hn : n ≤ 4294967296) : s.size ≤ 10 := by
  rw [← bl_length, h]
  exact decL_length 9 n (by omega)
theorem int_div10 (n : Nat) : ((n : Int) / 10) = ((n / 10 : Nat) : Int) := by simp

theorem decimal_any (n : Nat) : ∀ (w : World), n ≤ 4294967296 → Calls Tryz.prog 49 #[.int .i64 n] w (TextPost w (decL n)) := by
  induction n using Nat.strongRecOn with
  | _ n ih =>
    intro w hm
    have kc := fun (w : World) (d : Int) => conv_num (P := Tryz.prog) w 43 9 5 d 0 0 w.heap.size rfl Tryz.underlying43 Tryz.underlying5 Tryz.underlying9
    by_cases h9 : 9 < n
    · have t1 : decide ((9 : Int) < n) = true := decide_eq_true (by omega)
      have IH := Lib.hid (fun w => ih (n / 10) (by omega) w (by omega))
      have HE := Lib.hid (decL_of h9)
      clear ih
      go_enter Tryz.func49, Tryz.ntmps49
      go_wp2_with fail
      rw [int_div10]
      refine (IH.out _).mono ?_
      rintro e w' ⟨s, rfl, hs, hb⟩
      have hz := size_of_dec hs (by omega)
      have HS := Lib.hid hs
      have HB := Lib.hid hb
      clear hs hb
      go_wp2_with fail
      go_ret
      exact ⟨_, ret_str rfl, by rw [bl_add, HS.out, HE.out]; simp [bl], below_tr ((Below.refl w.heap.size w).alloc (Nat.le_refl _) _) HB.out⟩
    · have t1 : decide ((9 : Int) < n) = false := decide_eq_false (by omega)
      have HE := Lib.hid (decL_small h9)
      clear ih
      go_enter Tryz.func49, Tryz.ntmps49
      go_wp2_with fail
      go_ret
      exact ⟨_, rfl, by rw [HE.out]; rfl, (Below.refl w.heap.size w).alloc (Nat.le_refl _) _⟩

/-- The number of sixteens' digits, without zeros ahead; nothing of nought. -/
def hexDig (d : Nat) : UInt8 := if d < 10 then UInt8.ofNat (48 + d) else UInt8.ofNat (87 + d)
def hexL (n : Nat) : List UInt8 := if 0 < n then hexL (n / 16) ++ [hexDig (n % 16)] else []
termination_by n
decreasing_by omega
/-- "2001:db8::" -/
def preL : List UInt8 := [50, 48, 48, 49, 58, 100, 98, 56, 58, 58]
def quadL (n : Nat) : List UInt8 := decL (n / 16777216) ++ 46 :: (decL (n / 65536 % 256) ++ 46 :: (decL (n / 256 % 256) ++ 46 :: decL (n % 256)))
def Ad.text (a : Ad) : List UInt8 := if a.six then preL ++ hexL a.n else quadL a.n
/-- The value of an address in the reference. -/
def adv (a : Ad) : Value := .agg #[.bool a.six, .int .u32 a.n]

theorem w32 (n : Int) (h0 : 0 ≤ n) (h1 : n < 2 ^ 32) : IntKind.u32.wrap n = n := by rw [IntKind.wrap_u32]; omega
theorem and255 (x : Int) (h0 : 0 ≤ x) (h1 : x < 4294967296) : bits .and .u32 x 255 = x % 256 := bits_mask .u32 32 (by decide) w32 8 (by decide) x h0 h1
theorem and15 (x : Int) (h0 : 0 ≤ x) (h1 : x < 4294967296) : bits .and .u32 x 15 = x % 16 := bits_mask .u32 32 (by decide) w32 4 (by decide) x h0 h1
theorem or8 (x y : Int) (h0 : 0 ≤ x) (hx : x % 256 = 0) (h1 : x < 4294967296) (y0 : 0 ≤ y) (y1 : y < 256) : bits .or .u32 x y = x + y :=
  bits_join .u32 32 (by decide) w32 8 x y h0 (by omega) (by omega) y0 (by omega) (by omega)
theorem or4 (x y : Int) (h0 : 0 ≤ x) (hx : x % 16 = 0) (h1 : x < 4294967296) (y0 : 0 ≤ y) (y1 : y < 16) : bits .or .u32 x y = x + y :=
  bits_join .u32 32 (by decide) w32 4 x y h0 (by omega) (by omega) y0 (by omega) (by omega)
theorem wr64 (n : Int) (h0 : 0 ≤ n) (h1 : n < 4294967296) : IntKind.i64.wrap n = n := by rw [IntKind.wrap_i64]; omega

theorem held_box (w : World) (x y : Value) (t : TypeId) (n : Nat) (hy : y = .int .u32 n) : (w.alloc (.cells #[x, y] t)).drew.cell? ⟨w.heap.size, 1, none⟩ = some (.int .u32 n) ∧ Hid (Below w.heap.size w (w.alloc (.cells #[x, y] t)).drew ∧ w.heap.size < (w.alloc (.cells #[x, y] t)).drew.heap.size) := by
  subst hy
  refine ⟨?_, below_drewN ((Below.refl w.heap.size w).alloc (Nat.le_refl _) _) 1, by simp⟩
  have := World.cell?_alloc_mark w #[x, .int .u32 n] t (0, 0) 1
  simp at this ⊢
  first | exact this | skip
theorem held_on {w w1 w2 : World} {v : Value} (h : w1.cell? ⟨w.heap.size, 1, none⟩ = some v ∧ Hid (Below w.heap.size w w1 ∧ w.heap.size < w1.heap.size)) (hb : Below w1.heap.size w1 w2) :
    w2.cell? ⟨w.heap.size, 1, none⟩ = some v ∧ Hid (Below w.heap.size w w2 ∧ w.heap.size < w2.heap.size) :=
  ⟨(hb.cell h.2.out.2).trans h.1, below_tr h.2.out.1 hb, Nat.lt_of_lt_of_le h.2.out.2 hb.size⟩

end Go.Proofs.YtnehofekgnbelaaGreatDoor

/-
  The reference: an address of sixteen bytes as text.
-/
namespace Go.Proofs.YtnehofekgnbelaaGreatDoor
open Go.RowKit
set_option linter.unusedVariables false
set_option maxRecDepth 100000
set_option maxHeartbeats 1000000

theorem hexL_of {n : Nat} (h : 0 < n) : hexL n = hexL (n / 16) ++ [hexDig (n % 16)] := by
  rw [hexL, if_pos h]
theorem hexL_zero : hexL 0 = [] := by
  rw [hexL, if_neg (by omega)]
theorem hexL_length (k : Nat) : ∀ n, n < 16 ^ k → (hexL n).length ≤ k := by
  induction k with
  | zero => intro n h; obtain rfl : n = 0 := by simpa using h
            rw [hexL_zero]; exact Nat.le_refl _
  | succ k ih =>
    intro n h
    by_cases h0 : 0 < n
    · rw [hexL_of h0, List.length_append]
      have := ih (n / 16) (by rw [Nat.pow_succ] at h; omega)
      simp; omega
    · obtain rfl : n = 0 := by omega
      rw [hexL_zero]; exact Nat.zero_le _

def SixRel (w : World) (n m : Nat) (t : ByteArray) (wr : World) : Prop := hexL m ++ bl t = hexL n ∧ Below w.heap.size w wr

theorem hex_at (d : Nat) (h : d < 16) : (⟨#[48, 49, 50, 51, 52, 53, 54, 55, 56, 57, 97, 98, 99, 100, 101, 102]⟩ : ByteArray)[d]'h = hexDig d := by
  have : ∀ d : Fin 16, (⟨#[48, 49, 50, 51, 52, 53, 54, 55, 56, 57, 97, 98, 99, 100, 101, 102]⟩ : ByteArray)[d.val]'d.isLt = hexDig d.val := by decide
  exact this ⟨d, h⟩
theorem six_round {w wr : World} {n m d : Nat} {t : ByteArray} {o : Obj} (hm : m ≤ n) (h0 : 0 < m) (hd : d = m % 16) (hd16 : d < 16) (he : hexL m = hexL (m / 16) ++ [hexDig (m % 16)]) (hl : (hexL n).length ≤ 8) (h : SixRel w n m t wr) :
    ∃ (m' : Nat) (t' : ByteArray), Value.string (⟨#[(⟨#[48, 49, 50, 51, 52, 53, 54, 55, 56, 57, 97, 98, 99, 100, 101, 102]⟩ : ByteArray)[d]'hd16]⟩ ++ t) = .string t' ∧ Value.int .u32 ((m : Int) / 16) = .int .u32 m' ∧ m' ≤ n ∧ t'.size ≤ 8 ∧ Hid (SixRel w n m' t' (wr.alloc o)) := by
  have e : hexL (m / 16) ++ bl (⟨#[(⟨#[48, 49, 50, 51, 52, 53, 54, 55, 56, 57, 97, 98, 99, 100, 101, 102]⟩ : ByteArray)[d]'hd16]⟩ ++ t) = hexL n := by
    rw [← h.1, he, bl_add, hex_at d hd16, hd]
    simp [bl]
  refine ⟨m / 16, _, rfl, by simp, by omega, ?_, e, h.2.alloc h.2.size _⟩
  have := congrArg List.length e
  rw [List.length_append, bl_length] at this
  omega

theorem text_six (n : Nat) (w : World) (hn : n < 4294967296) : Calls Tryz.prog 27 #[adv ⟨true, n⟩] w (TextPost w (preL ++ hexL n)) := by
  have kc := fun (w : World) (d : Int) => conv_num (P := Tryz.prog) w 43 9 5 d 0 0 w.heap.size rfl Tryz.underlying43 Tryz.underlying5 Tryz.underlying9
  have hlen := hexL_length 8 n (by omega)
  have HL := Lib.hid hlen
  clear hlen
  unfold adv
  go_enter Tryz.func27, Tryz.ntmps27
  go_wp2_with fail
  go_loopw [3, 5] (fun o v wr => ∃ (m : Nat) (t : ByteArray), o = .string t ∧ v = .int .u32 m ∧ m ≤ n ∧ t.size ≤ 8 ∧ Hid (SixRel w n m t wr)) (fun _ v _ => (intOf v).toNat)
  case atStart => exact ⟨n, ⟨#[]⟩, rfl, rfl, Nat.le_refl _, Nat.zero_le _, by simp [bl], (Below.refl w.heap.size w).alloc (Nat.le_refl _) _⟩
  case round =>
    obtain ⟨m, t, rfl, rfl, hm, hz, hr⟩ := hrel
    by_cases h0 : 0 < m
    · have t1 : decide ((0 : Int) < m) = true := decide_eq_true (by omega)
      have HE := Lib.hid (hexL_of h0)
      have b0 := and15 m (by omega) (by omega)
      obtain ⟨d, hd⟩ : ∃ d, d = m % 16 := ⟨_, rfl⟩
      have b1 : bits .and .u32 (m : Int) 15 = (d : Int) := by rw [b0]; omega
      have hd16 : d < 16 := by omega
      have HD := Lib.hid hd
      clear b0 hd
      go_wp2_with fail
      go_roundw
      case rel => exact six_round hm h0 HD.out hd16 HE.out HL.out hr.out
      case measure => simp [intOf]; omega
    · obtain rfl : m = 0 := by omega
      go_wp2_with fail
      go_ret
      exact ⟨_, rfl, by rw [bl_add, ← hr.out.1, hexL_zero]; rfl, hr.out.2⟩

end Go.Proofs.YtnehofekgnbelaaGreatDoor

/-
  The reference: an address as text.
-/
namespace Go.Proofs.YtnehofekgnbelaaGreatDoor
open Go.RowKit
set_option linter.unusedVariables false
set_option maxRecDepth 100000
set_option maxHeartbeats 1000000

theorem text_any (a : Ad) (w : World) (hn : a.n < 4294967296) : Calls Tryz.prog 27 #[adv a] w (TextPost w a.text) := by
  obtain ⟨six, n⟩ := a
  have hn : n < 4294967296 := hn
  have D := Lib.hid decimal_any
  have kc := fun (w : World) (d : Int) => conv_num (P := Tryz.prog) w 43 9 5 d 0 0 w.heap.size rfl Tryz.underlying43 Tryz.underlying5 Tryz.underlying9
  cases six with
  | true => exact text_six n w hn
  | false =>
    unfold adv
    obtain ⟨d1, hd1⟩ : ∃ d, d = n / 16777216 := ⟨_, rfl⟩
    obtain ⟨d2, hd2⟩ : ∃ d, d = n / 65536 % 256 := ⟨_, rfl⟩
    obtain ⟨d3, hd3⟩ : ∃ d, d = n / 256 % 256 := ⟨_, rfl⟩
    obtain ⟨d4, hd4⟩ : ∃ d, d = n % 256 := ⟨_, rfl⟩
    have b1 : IntKind.i64.wrap ((n : Int) / 16777216) = (d1 : Int) := by rw [wr64 _ (by omega) (by omega)]; omega
    have b2 : IntKind.i64.wrap (bits .and .u32 ((n : Int) / 65536) 255) = (d2 : Int) := by rw [and255 _ (by omega) (by omega), wr64 _ (by omega) (by omega)]; omega
    have b3 : IntKind.i64.wrap (bits .and .u32 ((n : Int) / 256) 255) = (d3 : Int) := by rw [and255 _ (by omega) (by omega), wr64 _ (by omega) (by omega)]; omega
    have b4 : IntKind.i64.wrap (bits .and .u32 (n : Int) 255) = (d4 : Int) := by rw [and255 _ (by omega) (by omega), wr64 _ (by omega) (by omega)]; omega
    have HD := Lib.hid (And.intro hd1 (And.intro hd2 (And.intro hd3 hd4)))
    have l1 : d1 ≤ 255 := by omega
    have l2 : d2 ≤ 255 := by omega
    have l3 : d3 ≤ 255 := by omega
    have l4 : d4 ≤ 255 := by omega
    clear hd1 hd2 hd3 hd4
    go_enter Tryz.func27, Tryz.ntmps27
    go_wp2_with fail
    have H1 := Lib.hid (fun w => decimal_any d1 w (by omega))
    have H2 := Lib.hid (fun w => decimal_any d2 w (by omega))
    have H3 := Lib.hid (fun w => decimal_any d3 w (by omega))
    have H4 := Lib.hid (fun w => decimal_any d4 w (by omega))
    have m1 : d1 ≤ 4294967296 := by omega
    have m2 : d2 ≤ 4294967296 := by omega
    have m3 : d3 ≤ 4294967296 := by omega
    have m4 : d4 ≤ 4294967296 := by omega
    have q1 : ∀ a : ByteArray, a.size ≤ 10 → ¬ 9223372036854775807 < a.size + 1 := by intros; omega
    have q2 : ∀ a b : ByteArray, a.size ≤ 10 → b.size ≤ 10 → ¬ 9223372036854775807 < a.size + 1 + b.size := by intros; omega
    have q3 : ∀ a b : ByteArray, a.size ≤ 10 → b.size ≤ 10 → ¬ 9223372036854775807 < a.size + 1 + b.size + 1 := by intros; omega
    have q4 : ∀ a b c : ByteArray, a.size ≤ 10 → b.size ≤ 10 → c.size ≤ 10 → ¬ 9223372036854775807 < a.size + 1 + b.size + 1 + c.size := by intros; omega
    have q5 : ∀ a b c : ByteArray, a.size ≤ 10 → b.size ≤ 10 → c.size ≤ 10 → ¬ 9223372036854775807 < a.size + 1 + b.size + 1 + c.size + 1 := by intros; omega
    have q6 : ∀ a b c d : ByteArray, a.size ≤ 10 → b.size ≤ 10 → c.size ≤ 10 → d.size ≤ 10 → ¬ 9223372036854775807 < a.size + 1 + b.size + 1 + c.size + 1 + d.size := by intros; omega
    go_region_held3 (fun w' => w'.cell? ⟨w.heap.size, 1, none⟩ = some (.int .u32 n) ∧ Hid (Below w.heap.size w w' ∧ w.heap.size < w'.heap.size)) (first | exact hk4 | exact hk3 | exact hk2 | exact hk1 | exact held_box w _ _ _ n rfl) (first | (revert hk3; intro hk3; go_at_call 49; refine (H4.out _).mono ?_; rintro e w4 ⟨s4, rfl, hs, hb⟩; have hz4 := size_of_dec hs m4; have hk4 := held_on hk3 hb; have HS4 := Lib.hid hs; clear hs hb) | (revert hk2; intro hk2; go_at_call 49; refine (H3.out _).mono ?_; rintro e w3 ⟨s3, rfl, hs, hb⟩; have hz3 := size_of_dec hs m3; have hk3 := held_on hk2 hb; have HS3 := Lib.hid hs; clear hs hb) | (revert hk1; intro hk1; go_at_call 49; refine (H2.out _).mono ?_; rintro e w2 ⟨s2, rfl, hs, hb⟩; have hz2 := size_of_dec hs m2; have hk2 := held_on hk1 hb; have HS2 := Lib.hid hs; clear hs hb) | (go_at_call 49; refine (H1.out _).mono ?_; rintro e w1 ⟨s1, rfl, hs, hb⟩; have hz1 := size_of_dec hs m1; have hk1 := held_on (held_box w _ _ _ n rfl) hb; have HS1 := Lib.hid hs; clear hs hb))
    go_wp2_with fail
    go_ret
    refine ⟨_, rfl, ?_, hk4.2.out.1⟩
    obtain ⟨hd1, hd2, hd3, hd4⟩ := HD.out
    simp only [bl_add, HS1.out, HS2.out, HS3.out, HS4.out, hd1, hd2, hd3, hd4]
    simp [Ad.text, quadL, bl]

end Go.Proofs.YtnehofekgnbelaaGreatDoor

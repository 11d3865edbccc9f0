/-
  The reference: an address as text.
-/
import Derived.Test.YtnehofekgnbelaaSix
namespace Go.Proofs.Ytnehofekgnbelaa
open Go.RowKit
set_option linter.unusedVariables false
set_option maxRecDepth 100000
set_option maxHeartbeats 1000000

theorem text_any (a : Ad) (w : World) (hn : a.n < 4294967296) : Calls Try.prog 29 #[adv a] w (TextPost w a.text) := by
  obtain ⟨six, n⟩ := a
  have hn : n < 4294967296 := hn
  have D := Lib.hid decimal_any
  have kc := fun (w : World) (d : Int) => conv_num (P := Try.prog) w 45 9 5 d 0 0 w.heap.size rfl Try.underlying45 Try.underlying5 Try.underlying9
  cases six with
  | true => exact text_six n w hn
  | false =>
    unfold adv
    obtain ⟨d1, hd1⟩ : ∃ d, d = n / 16777216 := ⟨_, rfl⟩
    obtain ⟨d2, hd2⟩ : ∃ d, d = n / 65536 % 256 := ⟨_, rfl⟩
    obtain ⟨d3, hd3⟩ : ∃ d, d = n / 256 % 256 := ⟨_, rfl⟩
    obtain ⟨d4, hd4⟩ : ∃ d, d = n % 256 := ⟨_, rfl⟩
    have b1 : IntKind.i64.wrap ((n : Int) / 16777216) = (d1 : Int) := by rw [wr64 _ (by omega) (by omega)]; omega
    have b2 : IntKind.i64.wrap (bits .and .u32 ((n : Int) / 65536) 255) = (d2 : Int) := by rw [and255 _ (by omega) (by omega), wr64 _ (by omega) (by omega)]; omega
    have b3 : IntKind.i64.wrap (bits .and .u32 ((n : Int) / 256) 255) = (d3 : Int) := by rw [and255 _ (by omega) (by omega), wr64 _ (by omega) (by omega)]; omega
    have b4 : IntKind.i64.wrap (bits .and .u32 (n : Int) 255) = (d4 : Int) := by rw [and255 _ (by omega) (by omega), wr64 _ (by omega) (by omega)]; omega
    have HD := Lib.hid (And.intro hd1 (And.intro hd2 (And.intro hd3 hd4)))
    have l1 : d1 ≤ 255 := by omega
    have l2 : d2 ≤ 255 := by omega
    have l3 : d3 ≤ 255 := by omega
    have l4 : d4 ≤ 255 := by omega
    clear hd1 hd2 hd3 hd4
    go_enter Try.func29, Try.ntmps29
    go_wp2_with fail
    have H1 := Lib.hid (fun w => decimal_any d1 w (by omega))
    have H2 := Lib.hid (fun w => decimal_any d2 w (by omega))
    have H3 := Lib.hid (fun w => decimal_any d3 w (by omega))
    have H4 := Lib.hid (fun w => decimal_any d4 w (by omega))
    have m1 : d1 ≤ 4294967296 := by omega
    have m2 : d2 ≤ 4294967296 := by omega
    have m3 : d3 ≤ 4294967296 := by omega
    have m4 : d4 ≤ 4294967296 := by omega
    have q1 : ∀ a : ByteArray, a.size ≤ 10 → ¬ 9223372036854775807 < a.size + 1 := by intros; omega
    have q2 : ∀ a b : ByteArray, a.size ≤ 10 → b.size ≤ 10 → ¬ 9223372036854775807 < a.size + 1 + b.size := by intros; omega
    have q3 : ∀ a b : ByteArray, a.size ≤ 10 → b.size ≤ 10 → ¬ 9223372036854775807 < a.size + 1 + b.size + 1 := by intros; omega
    have q4 : ∀ a b c : ByteArray, a.size ≤ 10 → b.size ≤ 10 → c.size ≤ 10 → ¬ 9223372036854775807 < a.size + 1 + b.size + 1 + c.size := by intros; omega
    have q5 : ∀ a b c : ByteArray, a.size ≤ 10 → b.size ≤ 10 → c.size ≤ 10 → ¬ 9223372036854775807 < a.size + 1 + b.size + 1 + c.size + 1 := by intros; omega
    have q6 : ∀ a b c d : ByteArray, a.size ≤ 10 → b.size ≤ 10 → c.size ≤ 10 → d.size ≤ 10 → ¬ 9223372036854775807 < a.size + 1 + b.size + 1 + c.size + 1 + d.size := by intros; omega
    go_region_held3 (fun w' => w'.cell? ⟨w.heap.size, 1, none⟩ = some (.int .u32 n) ∧ Hid (Below w.heap.size w w' ∧ w.heap.size < w'.heap.size)) (first | exact hk4 | exact hk3 | exact hk2 | exact hk1 | exact held_box w _ _ _ n rfl) (first | (revert hk3; intro hk3; go_at_call 52; refine (H4.out _).mono ?_; rintro e w4 ⟨s4, rfl, hs, hb⟩; have hz4 := size_of_dec hs m4; have hk4 := held_on hk3 hb; have HS4 := Lib.hid hs; clear hs hb) | (revert hk2; intro hk2; go_at_call 52; refine (H3.out _).mono ?_; rintro e w3 ⟨s3, rfl, hs, hb⟩; have hz3 := size_of_dec hs m3; have hk3 := held_on hk2 hb; have HS3 := Lib.hid hs; clear hs hb) | (revert hk1; intro hk1; go_at_call 52; refine (H2.out _).mono ?_; rintro e w2 ⟨s2, rfl, hs, hb⟩; have hz2 := size_of_dec hs m2; have hk2 := held_on hk1 hb; have HS2 := Lib.hid hs; clear hs hb) | (go_at_call 52; refine (H1.out _).mono ?_; rintro e w1 ⟨s1, rfl, hs, hb⟩; have hz1 := size_of_dec hs m1; have hk1 := held_on (held_box w _ _ _ n rfl) hb; have HS1 := Lib.hid hs; clear hs hb))
    go_wp2_with fail
    go_ret
    refine ⟨_, rfl, ?_, hk4.2.out.1⟩
    obtain ⟨hd1, hd2, hd3, hd4⟩ := HD.out
    simp only [bl_add, HS1.out, HS2.out, HS3.out, HS4.out, hd1, hd2, hd3, hd4]
    simp [Ad.text, quadL, bl]

end Go.Proofs.Ytnehofekgnbelaa

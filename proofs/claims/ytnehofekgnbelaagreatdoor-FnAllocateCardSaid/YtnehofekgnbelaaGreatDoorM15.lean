/-
  Texts put together: App4.
-/
import Derived.Test.YtnehofekgnbelaaGreatDoorM14
import Derived.Test.YtnehofekgnbelaaGreatDoorM11

/-
  netip.Addr's v4, appendTo4.
-/
namespace Go.Proofs.YtnehofekgnbelaaGreatDoor
open Go.RowKit
set_option linter.unusedVariables false
set_option maxRecDepth 100000
set_option maxHeartbeats 1000000

/-- What is appended so far, and the box of the address, which the row is not. -/
structure App (w : World) (base : Nat) (v : Value) (l : List UInt8) (o : Obj) (m : List UInt8) (v' : Value) (w' : World) : Prop where
  buf : Buf w' base v' (l ++ m)
  grown : Grown w v w' v'
  box : w'.heap[w.heap.size]? = some o
  ne : v'.ownBlock ≠ some w.heap.size
  base : base ≤ w'.heap.size

section
variable {w w1 w2 : World} {base : Nat} {v v1 v2 : Value} {l m m2 : List UInt8} {o : Obj}
theorem App.start (hB : Buf w base v l) (hb : base ≤ w.heap.size) (o : Obj) : App w base v l o [] v (w.alloc o) :=
  ⟨by rw [List.append_nil]; exact hB.alloc o, (Grown.refl w v).alloc o, heap_alloc_new w o, fun e => by have := hB.lt _ e; omega, by simp; omega⟩
theorem App.on (h : App w base v l o m v1 w1) (hb : Below w1.heap.size w1 w2) : App w base v l o m v1 w2 :=
  ⟨h.buf.keep hb, h.grown.on hb, row_on hb h.box, h.ne, Nat.le_trans h.base hb.size⟩
theorem App.alloc (h : App w base v l o m v1 w1) (o' : Obj) : App w base v l o m v1 (w1.alloc o') := h.on ((Below.refl _ _).alloc (Nat.le_refl _) o')
theorem App.step (h : App w base v l o m v1 w1) (hB : Buf w2 base v2 ((l ++ m) ++ m2)) (hg : Grown w1 v1 w2 v2) : App w base v l o (m ++ m2) v2 w2 := by
  have hlt : w.heap.size < w1.heap.size := (Array.getElem?_eq_some_iff.1 h.box).1
  refine ⟨by rw [← List.append_assoc]; exact hB, h.grown.trans hg, hg.kept h.box h.ne, fun e => ?_, Nat.le_trans h.base hg.by_.size⟩
  rcases hg.own _ e with h1 | h1
  · exact h.ne h1
  · omega
theorem App.post {m' : List UInt8} (h : App w base v l o m v1 w1) (hm : m = m') : BufPost w base v l m' (.returned v1) w1 := ⟨v1, rfl, hm ▸ h.buf, h.grown⟩
end

theorem v4_any (hi lo i x : Nat) (six : Bool) (w : World) (hi3 : i ≤ 3) (hlo : lo < 18446744073709551616) (hx : lo / 256 ^ (3 - i) % 256 = x) :
    Calls Tryz.prog 165 #[naddr hi lo six, .int .u8 i] w (BelowPost w (.int .u8 x)) := by
  unfold naddr
  obtain rfl | rfl | rfl | rfl : i = 0 ∨ i = 1 ∨ i = 2 ∨ i = 3 := by omega
  all_goals
    simp only [Nat.reduceSub, Nat.reducePow, Nat.pow_one, Nat.pow_zero, Nat.div_one] at hx
    have HX := Lib.hid hx
    clear hx
    go_enter Tryz.func165, Tryz.ntmps165
    go_wp2_with fail
    go_ret
    refine ⟨ret_int (by have := HX.out; omega), (Below.refl w.heap.size w).alloc (Nat.le_refl _) _⟩

theorem dec_short (x : Nat) (h : x ≤ 255) : (decL x).length ≤ 3 := decL_length 2 x (by omega)

theorem appendTo4_any (N : Nat) (base : Nat) (v : Value) (l : List UInt8) (w : World) (hN : N < 4294967296) (hB : Buf w base v l) (hb : base ≤ w.heap.size) (hl : l.length ≤ 900) :
    Calls Tryz.prog 133 #[naddr 0 (281470681743360 + N) false, v] w (BufPost w base v l (quadL N)) := by
  obtain ⟨lo, hlo⟩ : ∃ lo, lo = 281470681743360 + N := ⟨_, rfl⟩
  rw [← hlo]
  obtain ⟨x0, hx0⟩ : ∃ x, x = N / 16777216 := ⟨_, rfl⟩
  obtain ⟨x1, hx1⟩ : ∃ x, x = N / 65536 % 256 := ⟨_, rfl⟩
  obtain ⟨x2, hx2⟩ : ∃ x, x = N / 256 % 256 := ⟨_, rfl⟩
  obtain ⟨x3, hx3⟩ : ∃ x, x = N % 256 := ⟨_, rfl⟩
  have HV0 := Lib.hid (fun w => v4_any 0 lo 0 x0 false w (by omega) (by omega) (show lo / 16777216 % 256 = x0 by omega))
  have HV1 := Lib.hid (fun w => v4_any 0 lo 1 x1 false w (by omega) (by omega) (show lo / 65536 % 256 = x1 by omega))
  have HV2 := Lib.hid (fun w => v4_any 0 lo 2 x2 false w (by omega) (by omega) (show lo / 256 % 256 = x2 by omega))
  have HV3 := Lib.hid (fun w => v4_any 0 lo 3 x3 false w (by omega) (by omega) (show lo / 1 % 256 = x3 by omega))
  have i0 : x0 ≤ 255 := by omega
  have i1 : x1 ≤ 255 := by omega
  have i2 : x2 ≤ 255 := by omega
  have i3 : x3 ≤ 255 := by omega
  have HQ := Lib.hid (show quadL N = decL x0 ++ 46 :: (decL x1 ++ 46 :: (decL x2 ++ 46 :: decL x3)) by unfold quadL; rw [hx0, hx1, hx2, hx3])
  clear hlo hN hx0 hx1 hx2 hx3
  have HD0 := Lib.hid (fun base v l w => appendDecimal_any x0 base v l w i0)
  have HD1 := Lib.hid (fun base v l w => appendDecimal_any x1 base v l w i1)
  have HD2 := Lib.hid (fun base v l w => appendDecimal_any x2 base v l w i2)
  have HD3 := Lib.hid (fun base v l w => appendDecimal_any x3 base v l w i3)
  have s0 := dec_short x0 i0
  have s1 := dec_short x1 i1
  have s2 := dec_short x2 i2
  have s3 := dec_short x3 i3
  generalize decL x0 = m0 at HD0 s0 HQ
  generalize decL x1 = m1 at HD1 s1 HQ
  generalize decL x2 = m2 at HD2 s2 HQ
  generalize decL x3 = m3 at HD3 s3 HQ
  unfold naddr at HV0 HV1 HV2 HV3 ⊢
  have hA := App.start hB hb (.cells #[.int .u64 ((0 : Nat) : Int), .int .u64 lo, .bool true, .bool false, .string ⟨#[]⟩] 160)
  have H := Lib.hid hA
  clear hA hB
  go_enter Tryz.func133, Tryz.ntmps133
  obtain ⟨c0, c1, c2, c3, c4⟩ := row5_facts H.out.box
  go_wp2_with fail
  refine (HV0.out _).mono ?_
  rintro e wa0 ⟨rfl, hb0⟩
  have HA0 := Lib.hid (H.out.on hb0)
  clear hb0 c0 c1 c2 c3 c4
  go_wp2_with fail
  refine (HD0.out _ _ _ _ HA0.out.buf HA0.out.base (by simp; omega)).mono ?_
  rintro e wb0 ⟨vb0, rfl, hB0, hG0⟩
  have HB0 := Lib.hid (HA0.out.step (m2 := m0) (by simpa using hB0) hG0)
  clear hB0 hG0
  go_wp2_with (focus (at_builtin; go_must (refine buf_append _ rfl _ _ rfl base vb0 _ (by rfl) (HB0.out.buf.alloc _) _ _ rfl (slat_byte _ _ 46 rfl) (by simp) (by simp; omega) (by have := HB0.out.base; simp; omega) ?_)))
  intro vc0 wc0 hC0 hG0
  have HC0 := Lib.hid ((HB0.out.alloc _).step (m2 := [46]) (by simpa using hC0) hG0)
  clear hC0 hG0
  obtain ⟨c0, c1, c2, c3, c4⟩ := row5_facts HC0.out.box
  go_wp2_with fail
  refine (HV1.out _).mono ?_
  rintro e wa1 ⟨rfl, hb1⟩
  have HA1 := Lib.hid (HC0.out.on hb1)
  clear hb1 c0 c1 c2 c3 c4
  go_wp2_with fail
  refine (HD1.out _ _ _ _ HA1.out.buf HA1.out.base (by simp; omega)).mono ?_
  rintro e wb1 ⟨vb1, rfl, hB1, hG1⟩
  have HB1 := Lib.hid (HA1.out.step (m2 := m1) (by simpa using hB1) hG1)
  clear hB1 hG1
  go_wp2_with (focus (at_builtin; go_must (refine buf_append _ rfl _ _ rfl base vb1 _ (by rfl) (HB1.out.buf.alloc _) _ _ rfl (slat_byte _ _ 46 rfl) (by simp) (by simp; omega) (by have := HB1.out.base; simp; omega) ?_)))
  intro vc1 wc1 hC1 hG1
  have HC1 := Lib.hid ((HB1.out.alloc _).step (m2 := [46]) (by simpa using hC1) hG1)
  clear hC1 hG1
  obtain ⟨c0, c1, c2, c3, c4⟩ := row5_facts HC1.out.box
  go_wp2_with fail
  refine (HV2.out _).mono ?_
  rintro e wa2 ⟨rfl, hb2⟩
  have HA2 := Lib.hid (HC1.out.on hb2)
  clear hb2 c0 c1 c2 c3 c4
  go_wp2_with fail
  refine (HD2.out _ _ _ _ HA2.out.buf HA2.out.base (by simp; omega)).mono ?_
  rintro e wb2 ⟨vb2, rfl, hB2, hG2⟩
  have HB2 := Lib.hid (HA2.out.step (m2 := m2) (by simpa using hB2) hG2)
  clear hB2 hG2
  go_wp2_with (focus (at_builtin; go_must (refine buf_append _ rfl _ _ rfl base vb2 _ (by rfl) (HB2.out.buf.alloc _) _ _ rfl (slat_byte _ _ 46 rfl) (by simp) (by simp; omega) (by have := HB2.out.base; simp; omega) ?_)))
  intro vc2 wc2 hC2 hG2
  have HC2 := Lib.hid ((HB2.out.alloc _).step (m2 := [46]) (by simpa using hC2) hG2)
  clear hC2 hG2
  obtain ⟨c0, c1, c2, c3, c4⟩ := row5_facts HC2.out.box
  go_wp2_with fail
  refine (HV3.out _).mono ?_
  rintro e wa3 ⟨rfl, hb3⟩
  have HA3 := Lib.hid (HC2.out.on hb3)
  clear hb3 c0 c1 c2 c3 c4
  go_wp2_with fail
  refine (HD3.out _ _ _ _ HA3.out.buf HA3.out.base (by simp; omega)).mono ?_
  rintro e wb3 ⟨vb3, rfl, hB3, hG3⟩
  have HB3 := Lib.hid (HA3.out.step (m2 := m3) (by simpa using hB3) hG3)
  clear hB3 hG3
  go_wp2_with fail
  go_ret
  exact HB3.out.post (by rw [HQ.out]; simp)

end Go.Proofs.YtnehofekgnbelaaGreatDoor

/-
  cniip's whole.add.
-/
import Derived.Test.YtnehofekgnbelaaAdd
namespace Go.Proofs.Ytnehofekgnbelaa
open Go.RowKit
set_option linter.unusedVariables false
set_option maxRecDepth 100000
set_option maxHeartbeats 1000000

/-- Bytes without noughts ahead that tell a number. -/
def NumPost8 (w : World) (N : Nat) (e : Ending) (w' : World) : Prop := ∃ v r, e = .returned v ∧ SlAt w' v (ipv r) ∧ strip r = r ∧ val r = N ∧ Below w.heap.size w w'

theorem strip_strip (l : List UInt8) : strip (strip l) = strip l := by
  rcases strip_head l with h | ⟨y, r, h, hy⟩
  · rw [h]; rfl
  · rw [h, strip_self hy]

theorem owns_built (w : World) (x : UInt8) : (w.alloc (.cells #[.int .u8 x.toNat] 5)).ownsRow w.heap.size 5 1 (.slice (some ⟨w.heap.size, 0, none⟩) 1 1) 1 (ipv [x]) :=
  ⟨rfl, .inr ⟨w.heap.size, 1, _, rfl, Nat.le_refl _, heap_alloc_new w _, Nat.le_refl _, by unfold maxLen; omega, rfl, rfl⟩⟩

theorem RowAt.of_owns {w : World} {base : Nat} {g n cap : Nat} {l : List UInt8} (h : w.ownsRow base 5 1 (.slice (some ⟨g, 0, none⟩) n cap) n (ipv l)) : RowAt w g l ∧ base ≤ g ∧ n ≤ cap ∧ cap ≤ maxLen ∧ n = l.length := by
  obtain ⟨hlen, h⟩ := h
  rw [ipv_length, Nat.mul_one] at hlen
  rcases h with ⟨h1, _⟩ | ⟨g', cap', cur, hv, hb, hg, hnc, hcm, _, ht⟩
  · cases h1
  · simp only [Value.slice.injEq, Option.some.injEq, Addr.mk.injEq, and_true] at hv
    obtain ⟨rfl, _, rfl⟩ := hv
    rw [Nat.mul_one, ← hlen] at ht
    exact ⟨⟨cur, hg, ht⟩, hb, hnc, hcm, hlen.symm⟩

theorem owns_form {w : World} {base n : Nat} {v : Value} {xs : List Value} (h : w.ownsRow base 5 1 v n xs) (hn : 0 < n) : ∃ g cap, v = .slice (some ⟨g, 0, none⟩) n cap := by
  rcases h.2 with ⟨_, h1⟩ | ⟨g, cap, _, hv, _⟩
  · omega
  · exact ⟨g, cap, hv⟩
theorem getD_zero (p : List UInt8) : ((0 : UInt8) :: p).getD 0 0 = 0 := rfl

/-- The world within: the row's bytes. -/
def AddRel (w : World) (g : Nat) (l : List UInt8) (wr : World) : Prop := RowAt wr g l ∧ Below w.heap.size w wr
theorem AddRel.store {w wr : World} {g : Nat} {l : List UInt8} (h : AddRel w g l wr) (hg : w.heap.size ≤ g) (i : Nat) (x : UInt8) : AddRel w g (l.set i x) (wr.setCell ⟨g, i, none⟩ (.int .u8 x.toNat)) :=
  ⟨h.1.store i x, h.2.setCell hg _⟩

theorem u8_up (x : UInt8) : ∃ y : UInt8, IntKind.u8.wrap ((x.toNat : Int) + 1) = (y.toNat : Int) ∧ (x = 255 → y = 0) ∧ (x ≠ 255 → y.toNat = x.toNat + 1) := by
  refine ⟨UInt8.ofNat (x.toNat + 1), ?_, ?_, ?_⟩
  · rw [IntKind.wrap_u8, toNat_ofNat]; omega
  · rintro rfl; rfl
  · intro h
    have hx := x.toNat_lt
    have : x.toNat ≠ 255 := fun e => h (UInt8.toNat_inj.1 e)
    rw [toNat_ofNat]
    omega
theorem u8_down (x : UInt8) : ∃ y : UInt8, IntKind.u8.wrap ((x.toNat : Int) + 255) = (y.toNat : Int) ∧ (x = 0 → y = 255) ∧ (x ≠ 0 → y.toNat + 1 = x.toNat) := by
  refine ⟨UInt8.ofNat (x.toNat + 255), ?_, ?_, ?_⟩
  · rw [IntKind.wrap_u8, toNat_ofNat]; omega
  · rintro rfl; rfl
  · intro h
    have hx := x.toNat_lt
    have : x.toNat ≠ 0 := fun e => h (UInt8.toNat_inj.1 e)
    rw [toNat_ofNat]
    omega

theorem add_up (v : Value) (p : List UInt8) (w : World) (hp : SlAt w v (ipv p)) (hn : p.length ≤ 1000) :
    Calls Try.prog 55 #[v, .int .i64 1] w (NumPost8 w (val p + 1)) := by
  obtain ⟨i0, hi, hz0, hz1, hz2⟩ := info_parts info5
  have HI := Lib.hid hi
  have HP := Lib.hid hp
  have HO := Lib.hid (owns_built w 0)
  rcases hp.out with ⟨h0, ao, cap, rfl, _⟩ | ⟨b, off, cap, rfl, hb, hl, hm, h0, hc⟩
  · obtain rfl : p = [] := by cases p; rfl; cases h0
    have HO1 := Lib.hid (owns_built w 1)
    clear hi hp h0
    go_enter Try.func55, Try.ntmps55
    go_wp2_with fail
    go_ret
    exact ⟨_, [1], rfl, SlAt.of_owns HO1.out, rfl, rfl, (Below.refl w.heap.size w).alloc (Nat.le_refl _) _⟩
  · rw [ipv_length] at h0 ⊢
    obtain ⟨n, hpn⟩ : ∃ n, n = p.length := ⟨_, rfl⟩
    rw [← hpn] at h0 hn ⊢
    have HN := Lib.hid hpn
    have HPK := Lib.hid (hp.keep ((Below.refl w.heap.size w).alloc (Nat.le_refl _) (.cells #[.int .u8 0] 5)))
    rw [ipv_length, ← hpn] at HPK
    clear hi hp hc hl hm hpn
    go_enter Try.func55, Try.ntmps55
    go_wp2_with (focus (at_builtin; go_must (refine wpList_append_slg _ rfl _ _ 83 rfl w.heap.size 5 i0 (.int .u8 0) 1 Try.underlying83 HI.out hz0 hz1 hz2 (by rfl) _ 1 (ipv [0]) rfl HO.out _ (ipv p) rfl HPK.out (ipv_one _) (by rw [ipv_length, ← HN.out]; exact h0) (by rw [ipv_length, ← HN.out]; unfold maxLen; omega) (by rw [ipv_length, ← HN.out]; omega) (by simp) ?_)))
    intro v1 w1 hown hg hblk
    have hown2 : w1.ownsRow w.heap.size 5 1 v1 (n + 1) (ipv (0 :: p)) := by
      rw [ipv_length, ← HN.out, Nat.add_comm] at hown
      exact hown
    obtain ⟨g, cap1, rfl⟩ := owns_form hown2 (by omega)
    obtain ⟨hrow, hgb, hc1, hc2, hlen⟩ := RowAt.of_owns hown2
    have hb1 : Below w.heap.size w w1 := ((Below.refl w.heap.size w).alloc (Nat.le_refl _) _).grown hg (by simp) fun b hb => by
      cases hb
      exact Nat.le_refl _
    have HR := Lib.hid (show AddRel w g (0 :: p) w1 from ⟨hrow, hb1⟩)
    have HC := Lib.hid (show cap1 ≤ maxLen from hc2)
    have HLEN := Lib.hid (show (0 :: p).length = n + 1 from hlen.symm)
    have hc3 : cap1 ≤ 9223372036854775807 := by unfold maxLen at hc2; omega
    clear hown hown2 hg hblk hrow hb1 hc2 hlen
    go_wp2_with fail
    go_loopw [6] (fun i wr => ∃ (k : Nat) (cur : List UInt8), i = .int .i64 k ∧ k ≤ n ∧ Hid (Inc (0 :: p) 0 255 k cur ∧ AddRel w g cur wr)) (fun i _ => (intOf i).toNat)
    case atStart => exact ⟨n, 0 :: p, by simp, Nat.le_refl _, by have := Inc.start (0 :: p) 0 255 (by simp); rw [HLEN.out] at this; exact this, HR.out⟩
    case round =>
      obtain ⟨k, cur, rfl, hk, hr⟩ := hrel
      obtain ⟨hinc, hrel2⟩ := hr.out
      have hcl := hinc.len
      rw [HLEN.out] at hcl
      have ck := hrel2.1.cell k (by omega)
      have zk := hrel2.1.free k
      rw [hinc.at] at ck
      obtain ⟨y, hy, hy1, hy2⟩ := u8_up ((0 :: p).getD k 0)
      have HY := Lib.hid (show (0 :: p).getD k 0 = 255 → y = 0 ∧ True from fun h => ⟨hy1 h, trivial⟩)
      have HY2 := Lib.hid hy2
      have HX := Lib.hid (show k = 0 → (0 :: p).getD k 0 = 0 from fun h => by rw [h]; rfl)
      have HINC := Lib.hid hinc
      have HREL := Lib.hid hrel2
      have HCL := Lib.hid hcl
      generalize hgx : (0 :: p).getD k 0 = x at ck hy hy1 hy2 HY HY2 HX
      have HGX := Lib.hid hgx
      clear hinc hrel2 hcl hy1 hy2 hgx
      by_cases hx : x = 255
      · have hy0 : y = 0 := (HY.out hx).1
        subst hy0
        have hk0 : k ≠ 0 := fun h => by have := HX.out h; rw [this] at hx; exact absurd hx (by decide)
        obtain ⟨k', rfl⟩ : ∃ k', k = k' + 1 := ⟨k - 1, by omega⟩
        have HXX := Lib.hid hx
        clear hx
        go_wp2_with fail
        go_roundw
        case rel => exact ⟨k', cur.set (k' + 1) 0, rfl, by omega, HINC.out.next (by rw [HGX.out]; exact HXX.out), HREL.out.store hgb (k' + 1) 0⟩
        case measure => simp [intOf]
      · have hyx := HY2.out hx
        have t1 : ((y.toNat : Int) != 0) = true := by rw [bne_iff_ne]; omega
        have HYX := Lib.hid hyx
        have HST := Lib.hid (HREL.out.store hgb k y)
        have HVAL := Lib.hid (show val (cur.set k y) = val p + 1 by
          have := HINC.out.up y (by rw [HGX.out]; exact hyx)
          rw [this, val_cons]
          simp)
        clear hx hyx
        go_wp2_with fail
        refine (setBytes_any _ (cur.set k y) _ (by
          have := HST.out.1.sl (cap := cap1) (by rw [List.length_set, HCL.out]; omega) HC.out
          rw [List.length_set, HCL.out] at this
          exact this) (by rw [List.length_set, HCL.out]; omega)).mono ?_
        rintro e w2 ⟨v2, rfl, hs2, hb2⟩
        have HS2 := Lib.hid hs2
        have HB2 := Lib.hid (below_tr HST.out.2 hb2)
        clear hs2 hb2
        go_wp2_with fail
        go_ret
        exact ⟨_, _, rfl, HS2.out, strip_strip _, by rw [val_strip]; exact HVAL.out, HB2.out⟩

theorem add_down (v : Value) (p : List UInt8) (w : World) (hp : SlAt w v (ipv p)) (hn : p.length ≤ 1000) (hs : strip p = p) (h1 : 0 < p.length) :
    Calls Try.prog 55 #[v, .int .i64 (-1)] w (NumPost8 w (val p - 1)) := by
  obtain ⟨i0, hi, hz0, hz1, hz2⟩ := info_parts info5
  have HI := Lib.hid hi
  have HP := Lib.hid hp
  have HO := Lib.hid (owns_built w 0)
  have HHD := Lib.hid (show p.getD 0 0 ≠ 0 by
    rcases strip_head p with h | ⟨y, r, h, hy⟩
    · rw [hs] at h; rw [h] at h1; simp at h1
    · rw [hs] at h; rw [h]; exact hy)
  rcases hp.out with ⟨h0, ao, cap, rfl, _⟩ | ⟨b, off, cap, rfl, hb, hl, hm, h0, hc⟩
  · exfalso
    obtain rfl : p = [] := by cases p; rfl; cases h0
    simp at h1
  · rw [ipv_length] at h0 ⊢
    obtain ⟨n, hpn⟩ : ∃ n, n = p.length := ⟨_, rfl⟩
    rw [← hpn] at h0 hn ⊢
    have HN := Lib.hid hpn
    have HPK := Lib.hid (hp.keep ((Below.refl w.heap.size w).alloc (Nat.le_refl _) (.cells #[.int .u8 0] 5)))
    rw [ipv_length, ← hpn] at HPK
    clear hi hp hc hl hm hpn hs h1
    go_enter Try.func55, Try.ntmps55
    go_wp2_with (focus (at_builtin; go_must (refine wpList_append_slg _ rfl _ _ 83 rfl w.heap.size 5 i0 (.int .u8 0) 1 Try.underlying83 HI.out hz0 hz1 hz2 (by rfl) _ 1 (ipv [0]) rfl HO.out _ (ipv p) rfl HPK.out (ipv_one _) (by rw [ipv_length, ← HN.out]; exact h0) (by rw [ipv_length, ← HN.out]; unfold maxLen; omega) (by rw [ipv_length, ← HN.out]; omega) (by simp) ?_)))
    intro v1 w1 hown hg hblk
    have hown2 : w1.ownsRow w.heap.size 5 1 v1 (n + 1) (ipv (0 :: p)) := by
      rw [ipv_length, ← HN.out, Nat.add_comm] at hown
      exact hown
    obtain ⟨g, cap1, rfl⟩ := owns_form hown2 (by omega)
    obtain ⟨hrow, hgb, hc1, hc2, hlen⟩ := RowAt.of_owns hown2
    have hb1 : Below w.heap.size w w1 := ((Below.refl w.heap.size w).alloc (Nat.le_refl _) _).grown hg (by simp) fun b hb => by
      cases hb
      exact Nat.le_refl _
    have HR := Lib.hid (show AddRel w g (0 :: p) w1 from ⟨hrow, hb1⟩)
    have HC := Lib.hid (show cap1 ≤ maxLen from hc2)
    have HLEN := Lib.hid (show (0 :: p).length = n + 1 from hlen.symm)
    have hc3 : cap1 ≤ 9223372036854775807 := by unfold maxLen at hc2; omega
    clear hown hown2 hg hblk hrow hb1 hc2 hlen
    go_wp2_with fail
    go_loopw [6] (fun i wr => ∃ (k : Nat) (cur : List UInt8), i = .int .i64 k ∧ k ≤ n ∧ 1 ≤ k ∧ Hid (Inc (0 :: p) 255 0 k cur ∧ AddRel w g cur wr)) (fun i _ => (intOf i).toNat)
    case atStart => exact ⟨n, 0 :: p, by simp, Nat.le_refl _, by omega, by have := Inc.start (0 :: p) 255 0 (by simp); rw [HLEN.out] at this; exact this, HR.out⟩
    case round =>
      obtain ⟨k, cur, rfl, hk, hk1, hr⟩ := hrel
      obtain ⟨hinc, hrel2⟩ := hr.out
      have hcl := hinc.len
      rw [HLEN.out] at hcl
      have ck := hrel2.1.cell k (by omega)
      have zk := hrel2.1.free k
      rw [hinc.at] at ck
      obtain ⟨y, hy, hy1, hy2⟩ := u8_down ((0 :: p).getD k 0)
      have HY := Lib.hid (show (0 :: p).getD k 0 = 0 → y = 255 ∧ True from fun h => ⟨hy1 h, trivial⟩)
      have HY2 := Lib.hid hy2
      have HX := Lib.hid (show k = 1 → (0 :: p).getD k 0 ≠ 0 from fun h => by rw [h]; exact HHD.out)
      have HINC := Lib.hid hinc
      have HREL := Lib.hid hrel2
      have HCL := Lib.hid hcl
      generalize hgx : (0 :: p).getD k 0 = x at ck hy hy1 hy2 HY HY2 HX
      have HGX := Lib.hid hgx
      clear hinc hrel2 hcl hy1 hy2 hgx
      by_cases hx : x = 0
      · have hy0 : y = 255 := (HY.out hx).1
        subst hy0
        have hk0 : k ≠ 1 := fun h => HX.out h hx
        obtain ⟨k', rfl⟩ : ∃ k', k = k' + 1 := ⟨k - 1, by omega⟩
        have HXX := Lib.hid hx
        clear hx
        go_wp2_with fail
        go_roundw
        case rel => exact ⟨k', cur.set (k' + 1) 255, rfl, by omega, by omega, HINC.out.next (by rw [HGX.out]; exact HXX.out), HREL.out.store hgb (k' + 1) 255⟩
        case measure => simp [intOf]
      · have hyx := HY2.out hx
        have hx256 := x.toNat_lt
        have t1 : ((y.toNat : Int) != 255) = true := by rw [bne_iff_ne]; omega
        have HYX := Lib.hid hyx
        have HST := Lib.hid (HREL.out.store hgb k y)
        have HVAL := Lib.hid (show val (cur.set k y) = val p - 1 by
          have := HINC.out.down y (by rw [HGX.out]; exact hyx)
          rw [val_cons] at this
          simp at this
          omega)
        clear hx hyx hx256
        go_wp2_with fail
        refine (setBytes_any _ (cur.set k y) _ (by
          have := HST.out.1.sl (cap := cap1) (by rw [List.length_set, HCL.out]; omega) HC.out
          rw [List.length_set, HCL.out] at this
          exact this) (by rw [List.length_set, HCL.out]; omega)).mono ?_
        rintro e w2 ⟨v2, rfl, hs2, hb2⟩
        have HS2 := Lib.hid hs2
        have HB2 := Lib.hid (below_tr HST.out.2 hb2)
        clear hs2 hb2
        go_wp2_with fail
        go_ret
        exact ⟨_, _, rfl, HS2.out, strip_strip _, by rw [val_strip]; exact HVAL.out, HB2.out⟩

end Go.Proofs.Ytnehofekgnbelaa

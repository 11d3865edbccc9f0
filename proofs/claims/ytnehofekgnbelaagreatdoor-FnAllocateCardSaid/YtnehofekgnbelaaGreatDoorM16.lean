/-
  Texts put together: App6, AppTo.
-/
import Derived.Test.YtnehofekgnbelaaGreatDoorM15
import Derived.RegionTactic

/-
  netip.Addr's v6u16, appendTo6.
-/
namespace Go.Proofs.YtnehofekgnbelaaGreatDoor
open Go.RowKit
set_option linter.unusedVariables false
set_option maxRecDepth 100000
set_option maxHeartbeats 1000000

theorem halves_any (B : Nat) (w : World) :
    Calls Tryz.prog 180 #[.pointer (some ⟨B, 0, none⟩)] w (BelowPost w (.agg #[.pointer (some ⟨B, 0, none⟩), .pointer (some ⟨B, 1, none⟩)])) := by
  go_enter Tryz.func180, Tryz.ntmps180
  go_wp2_with fail
  go_region
  all_goals
    go_wp2_with fail
    exact bodyPost_ret (v := .agg #[.pointer (some ⟨B, 0, none⟩), .pointer (some ⟨B, 1, none⟩)]) (by simp [results, Tryz.results180, go_sem]) rfl ⟨rfl, below_drewN ((Below.refl w.heap.size w).alloc (Nat.le_refl _) _) 1⟩

/-- The words of an address that begins with 2001:db8::. -/
def wd (n k : Nat) : Nat := if k = 0 then 8193 else if k = 1 then 3512 else if k = 7 then n else 0

theorem index_two0 (p0 p1 : Value) (w : World) : (Instr.index 268 (.agg #[p0, p1]) (.int .u8 0)).run Tryz.prog w = .ok p0 w := by kernel_rfl
theorem index_two1 (p0 p1 : Value) (w : World) : (Instr.index 268 (.agg #[p0, p1]) (.int .u8 1)).run Tryz.prog w = .ok p1 w := by kernel_rfl

theorem nz5_old' {w w2 : World} {o : Obj} (hb : Below (w.alloc o).heap.size (w.alloc o) w2) : w2.heap[w.heap.size]? = some o ∧ Below w.heap.size w w2 := by
  refine ⟨?_, below_tr ((Below.refl w.heap.size w).alloc (Nat.le_refl _) _) hb⟩
  rw [hb.block w.heap.size (by simp)]
  exact heap_alloc_new w _

theorem v6u16_any (n k : Nat) (w : World) (hk : k < 8) (hn : n < 65536) :
    Calls Tryz.prog 168 #[naddr 2306139568115548160 n true, .int .u8 k] w (BelowPost w (.int .u16 (wd n k))) := by
  have HH := Lib.hid (fun B w => halves_any B w)
  have ix0 := fun (p0 p1 : Value) (w : World) => index_two0 p0 p1 w
  have ix1 := fun (p0 p1 : Value) (w : World) => index_two1 p0 p1 w
  unfold naddr
  obtain rfl | rfl | rfl | rfl | rfl | rfl | rfl | rfl : k = 0 ∨ k = 1 ∨ k = 2 ∨ k = 3 ∨ k = 4 ∨ k = 5 ∨ k = 6 ∨ k = 7 := by omega
  all_goals
    go_enter Tryz.func168, Tryz.ntmps168
    go_wp2_with fail
    refine (HH.out _ _).mono ?_
    rintro e w2 ⟨rfl, hb⟩
    have hk := nz5_old' hb
    obtain ⟨c0, c1, c2, c3, c4⟩ := row5_facts hk.1
    have HB := Lib.hid hk.2
    clear hk hb
    go_wp2_with fail
    go_ret
    refine ⟨ret_int (by simp [wd, IntKind.wrap_u16] <;> omega), HB.out⟩

theorem slat_colons (W : World) (b : Nat) (hb : W.heap.size = b) : SlAt (W.alloc (.cells #[.int .u8 58, .int .u8 58] 5)) (.slice (some ⟨b, 0, none⟩) 2 2) (ipv [58, 58]) := by
  subst hb
  exact SlAt.mk (xs := ipv [58, 58]) (by simp [ipv]) (by unfold maxLen; simp) fun i hi => by
    have : i = 0 ∨ i = 1 := by simp [ipv] at hi; omega
    rcases this with rfl | rfl <;> simp [ipv, u8v, go_sem]

theorem wd_zero {n k : Nat} (h : 2 ≤ k) (h2 : k < 7 ∨ k = 7 ∧ n = 0) : wd n k = 0 := by
  unfold wd
  rw [if_neg (by omega), if_neg (by omega)]
  split
  · rename_i hk
    rcases h2 with h3 | h3
    · omega
    · exact h3.2
  · rfl
theorem wd_not {n k : Nat} (h : k < 2 ∨ k = 7 ∧ n ≠ 0) : 0 < wd n k := by
  unfold wd
  rcases h with h | ⟨rfl, h⟩
  · obtain rfl | rfl : k = 0 ∨ k = 1 := by omega
    all_goals simp
  · simp; omega

theorem appendTo6_any (n : Nat) (base : Nat) (v : Value) (l : List UInt8) (w : World) (hn : n < 65536) (hB : Buf w base v l) (hb : base ≤ w.heap.size) (hl : l.length ≤ 900) :
    Calls Tryz.prog 136 #[naddr 2306139568115548160 n true, v] w (BufPost w base v l (preL ++ hexL n)) := by
  obtain ⟨e, he, he7, he8, hz, hnz⟩ : ∃ e : Nat, (e = 8 ∧ n = 0 ∨ e = 7 ∧ 0 < n) ∧ 7 ≤ e ∧ e ≤ 8 ∧ (∀ k, 2 ≤ k → k < e → wd n k = 0) ∧ (∀ k, k < 8 → k < 2 ∨ k = e → 0 < wd n k) := by
    by_cases h0 : n = 0
    · exact ⟨8, .inl ⟨rfl, h0⟩, by omega, by omega, fun k h1 h2 => wd_zero h1 (by omega), fun k h1 h2 => wd_not (by omega)⟩
    · exact ⟨7, .inr ⟨rfl, by omega⟩, by omega, by omega, fun k h1 h2 => wd_zero h1 (by omega), fun k h1 h2 => wd_not (by omega)⟩
  have HV := Lib.hid (fun k w hk => v6u16_any n k w hk hn)
  have HE := Lib.hid he
  have HZ := Lib.hid hz
  have HNZ := Lib.hid hnz
  have hA := App.start hB hb (.cells #[.int .u64 ((2306139568115548160 : Nat) : Int), .int .u64 n, .bool true, .bool true, .string ⟨#[]⟩] 160)
  have H := Lib.hid hA
  have HW := Lib.hid (fun k => show wd n k < 65536 by unfold wd; split <;> (try split) <;> (try split) <;> omega)
  clear hA hB he hz hnz
  unfold naddr at HV ⊢
  go_enter Tryz.func136, Tryz.ntmps136
  go_wp2_with fail
  go_loopw [5, 6, 7] (fun zs ze p wr => ∃ i : Nat, i ≤ 8 ∧ p = .int .u8 i ∧ ((i ≤ 2 ∧ zs = .int .u8 255 ∧ ze = .int .u8 255) ∨ (2 < i ∧ zs = .int .u8 2 ∧ ze = .int .u8 e)) ∧ Hid (App w base v l (.cells #[.int .u64 ((2306139568115548160 : Nat) : Int), .int .u64 n, .bool true, .bool true, .string ⟨#[]⟩] 160) [] v wr)) (fun _ _ p _ => 8 - (intOf p).toNat)
  case atStart => exact ⟨0, by omega, rfl, .inl ⟨by omega, rfl, rfl⟩, H.out⟩
  case round =>
    obtain ⟨i, hi, rfl, hzz, hr⟩ := hrel
    obtain ⟨wo, hwo⟩ : ∃ wo : World, wo = wr := ⟨_, rfl⟩
    subst hwo
    by_cases hlt : i < 8
    · obtain ⟨E, hE⟩ : ∃ E, E = if i < 2 then i else e := ⟨_, rfl⟩
      have hiE : i ≤ E := by rw [hE]; split <;> omega
      have hE8 : E ≤ 8 := by rw [hE]; split <;> omega
      have HZE := Lib.hid (show ∀ k, i ≤ k → k < E → wd n k = 0 from fun k h1 h2 => HZ.out k (by rw [hE] at h2; split at h2 <;> omega) (by rw [hE] at h2; split at h2 <;> omega))
      have HNE := Lib.hid (show E < 8 → 0 < wd n E from fun h => HNZ.out E h (by rw [hE]; split <;> omega))
      have HE2 := Lib.hid hE
      clear hE
      have t0 : decide ((i : Int) < 8) = true := decide_eq_true (by omega)
      rcases hzz with ⟨h2, rfl, rfl⟩ | ⟨h2, rfl, rfl⟩
      · go_wp2_with fail
        go_loopw [8] (fun q wq => ∃ j : Nat, i ≤ j ∧ j ≤ E ∧ q = .int .u8 j ∧ Hid (App w base v l (.cells #[.int .u64 ((2306139568115548160 : Nat) : Int), .int .u64 n, .bool true, .bool true, .string ⟨#[]⟩] 160) [] v wq)) (fun q _ => 8 - (intOf q).toNat)
        case atStart => exact ⟨i, Nat.le_refl _, hiE, rfl, hr.out⟩
        case round =>
          obtain ⟨j, hij, hjE, rfl, hq⟩ := hrel
          obtain ⟨c0, c1, c2, c3, c4⟩ := row5_facts hq.out.box
          by_cases hjl : j < E
          · have t1 : decide ((j : Int) < 8) = true := decide_eq_true (by omega)
            have HJ := Lib.hid (HZE.out j hij hjl)
            go_wp2_with fail
            refine (HV.out j _ (by omega)).mono ?_
            rintro e1 w2 ⟨rfl, hb2⟩
            rw [HJ.out]
            have HA2 := Lib.hid (hq.out.on hb2)
            clear hb2 c0 c1 c2 c3 c4
            go_wp2_with fail
            go_roundw
            case rel => first | exact ⟨j + 1, by omega, by omega, by go_num, HA2.out⟩ | ((repeat apply Exists.intro); exact ⟨⟨j + 1, by omega, by omega, by go_num, HA2.out⟩, rfl⟩) | ((repeat apply Exists.intro); exact ⟨⟨j + 1, by omega, by omega, by go_num, HA2.out⟩, rfl, rfl, rfl⟩)
            case measure => simp [intOf]; omega
          · obtain rfl : j = E := by omega
            by_cases h8 : j < 8
            · have t1 : decide ((j : Int) < 8) = true := decide_eq_true (by omega)
              have hne := HNE.out h8
              have HWJ := HW.out j
              go_wp2_with fail
              refine (HV.out j _ h8).mono ?_
              rintro e1 w2 ⟨rfl, hb2⟩
              generalize wd n j = x at hne HWJ
              have t2 : ((x : Int) == 0) = false := by rw [beq_eq_false_iff_ne]; omega
              have HA2 := Lib.hid (hq.out.on hb2)
              clear hb2 c0 c1 c2 c3 c4 hne
              by_cases hi2 : i < 2
              · have hl0 : j = i := by have := HE2.out; rw [if_pos hi2] at this; omega
                subst hl0
                go_wp2_with fail
                go_roundw
                case rel => first | exact ⟨j + 1, by omega, by go_num, .inl ⟨by omega, rfl, rfl⟩, HA2.out⟩ | ((repeat apply Exists.intro); exact ⟨⟨j + 1, by omega, by go_num, .inl ⟨by omega, rfl, rfl⟩, HA2.out⟩, rfl⟩) | ((repeat apply Exists.intro); exact ⟨⟨j + 1, by omega, by go_num, .inl ⟨by omega, rfl, rfl⟩, HA2.out⟩, rfl, rfl, rfl⟩)
                case measure => simp [intOf]; omega
              · obtain rfl : i = 2 := by omega
                obtain rfl : j = e := by have := HE2.out; rw [if_neg (by omega)] at this; omega
                go_wp2_with fail
                go_roundw
                case rel => first | exact ⟨3, by omega, by go_num, .inr ⟨by omega, rfl, rfl⟩, HA2.out⟩ | ((repeat apply Exists.intro); exact ⟨⟨3, by omega, by go_num, .inr ⟨by omega, rfl, rfl⟩, HA2.out⟩, rfl⟩) | ((repeat apply Exists.intro); exact ⟨⟨3, by omega, by go_num, .inr ⟨by omega, rfl, rfl⟩, HA2.out⟩, rfl, rfl, rfl⟩)
                case measure => simp [intOf]
            · have t1 : decide ((j : Int) < 8) = false := decide_eq_false (by omega)
              by_cases hi2 : i < 2
              · exfalso; have := HE2.out; rw [if_pos hi2] at this; omega
              · obtain rfl : i = 2 := by omega
                obtain rfl : j = e := by have := HE2.out; rw [if_neg (by omega)] at this; omega
                go_wp2_with fail
                go_roundw
                case rel => first | exact ⟨3, by omega, by go_num, .inr ⟨by omega, rfl, rfl⟩, hq.out⟩ | ((repeat apply Exists.intro); exact ⟨⟨3, by omega, by go_num, .inr ⟨by omega, rfl, rfl⟩, hq.out⟩, rfl⟩) | ((repeat apply Exists.intro); exact ⟨⟨3, by omega, by go_num, .inr ⟨by omega, rfl, rfl⟩, hq.out⟩, rfl, rfl, rfl⟩)
                case measure => simp [intOf]
      · go_wp2_with fail
        go_loopw [8] (fun q wq => ∃ j : Nat, i ≤ j ∧ j ≤ E ∧ q = .int .u8 j ∧ Hid (App w base v l (.cells #[.int .u64 ((2306139568115548160 : Nat) : Int), .int .u64 n, .bool true, .bool true, .string ⟨#[]⟩] 160) [] v wq)) (fun q _ => 8 - (intOf q).toNat)
        case atStart => exact ⟨i, Nat.le_refl _, hiE, rfl, hr.out⟩
        case round =>
          obtain ⟨j, hij, hjE, rfl, hq⟩ := hrel
          obtain ⟨c0, c1, c2, c3, c4⟩ := row5_facts hq.out.box
          by_cases hjl : j < E
          · have t1 : decide ((j : Int) < 8) = true := decide_eq_true (by omega)
            have HJ := Lib.hid (HZE.out j hij hjl)
            go_wp2_with fail
            refine (HV.out j _ (by omega)).mono ?_
            rintro e1 w2 ⟨rfl, hb2⟩
            rw [HJ.out]
            have HA2 := Lib.hid (hq.out.on hb2)
            clear hb2 c0 c1 c2 c3 c4
            go_wp2_with fail
            go_roundw
            case rel => first | exact ⟨j + 1, by omega, by omega, by go_num, HA2.out⟩ | ((repeat apply Exists.intro); exact ⟨⟨j + 1, by omega, by omega, by go_num, HA2.out⟩, rfl⟩) | ((repeat apply Exists.intro); exact ⟨⟨j + 1, by omega, by omega, by go_num, HA2.out⟩, rfl, rfl, rfl⟩)
            case measure => simp [intOf]; omega
          · obtain rfl : j = E := by omega
            by_cases h8 : j < 8
            · have t1 : decide ((j : Int) < 8) = true := decide_eq_true (by omega)
              have hne := HNE.out h8
              have HWJ := HW.out j
              go_wp2_with fail
              refine (HV.out j _ h8).mono ?_
              rintro e1 w2 ⟨rfl, hb2⟩
              generalize wd n j = x at hne HWJ
              have t2 : ((x : Int) == 0) = false := by rw [beq_eq_false_iff_ne]; omega
              have HA2 := Lib.hid (hq.out.on hb2)
              clear hb2 c0 c1 c2 c3 c4 hne
              obtain rfl : j = e := by have := HE2.out; rw [if_neg (by omega)] at this; omega
              have t3 : decide (((j : Int) - 2) < (j : Int) - i) = false := decide_eq_false (by omega)
              go_wp2_with fail
              all_goals
                go_roundw
                case rel => first | exact ⟨i + 1, by omega, by go_num, .inr ⟨by omega, rfl, rfl⟩, HA2.out⟩ | ((repeat apply Exists.intro); exact ⟨⟨i + 1, by omega, by go_num, .inr ⟨by omega, rfl, rfl⟩, HA2.out⟩, rfl⟩) | ((repeat apply Exists.intro); exact ⟨⟨i + 1, by omega, by go_num, .inr ⟨by omega, rfl, rfl⟩, HA2.out⟩, rfl, rfl, rfl⟩)
                case measure => simp [intOf]; omega
            · have t1 : decide ((j : Int) < 8) = false := decide_eq_false (by omega)
              obtain rfl : j = e := by have := HE2.out; rw [if_neg (by omega)] at this; omega
              have t3 : decide (((j : Int) - 2) < (j : Int) - i) = false := decide_eq_false (by omega)
              go_wp2_with fail
              all_goals
                go_roundw
                case rel => first | exact ⟨i + 1, by omega, by go_num, .inr ⟨by omega, rfl, rfl⟩, hq.out⟩ | ((repeat apply Exists.intro); exact ⟨⟨i + 1, by omega, by go_num, .inr ⟨by omega, rfl, rfl⟩, hq.out⟩, rfl⟩) | ((repeat apply Exists.intro); exact ⟨⟨i + 1, by omega, by go_num, .inr ⟨by omega, rfl, rfl⟩, hq.out⟩, rfl, rfl, rfl⟩)
                case measure => simp [intOf]; omega
    · obtain rfl : i = 8 := by omega
      rcases hzz with ⟨h2, _⟩ | ⟨h2, rfl, rfl⟩
      · exfalso; omega
      have HX0 := Lib.hid (fun base v l w => appendHex_any 8193 base v l w (by omega) (by omega))
      have HX1 := Lib.hid (fun base v l w => appendHex_any 3512 base v l w (by omega) (by omega))
      have HM0 := Lib.hid (show hexL 8193 = [50, 48, 48, 49] by rw [hex4 _ (by omega) (by omega)]; rfl)
      have HM1 := Lib.hid (show hexL 3512 = [100, 98, 56] by rw [hex3 _ (by omega) (by omega)]; rfl)
      rw [HM0.out] at HX0
      rw [HM1.out] at HX1
      clear HM0 HM1
      go_wp2_with fail
      refine wp_loop_rounds 4 ?_
      rw [rounds_succ]
      obtain ⟨c0, c1, c2, c3, c4⟩ := row5_facts hr.out.box
      go_wp2_with fail
      refine (HV.out 0 _ (by omega)).mono ?_
      rintro e1 wa0 ⟨rfl, hb0⟩
      rw [show wd n 0 = 8193 from rfl]
      have HA0 := Lib.hid (hr.out.on hb0)
      clear hb0 c0 c1 c2 c3 c4
      go_wp2_with fail
      refine (HX0.out _ _ _ _ HA0.out.buf HA0.out.base (by simp; omega)).mono ?_
      rintro e1 wb0 ⟨vb0, rfl, hB0, hG0⟩
      have HB0 := Lib.hid (HA0.out.step (m2 := [50, 48, 48, 49]) (by simpa using hB0) hG0)
      clear hB0 hG0
      go_wp2_with fail
      rw [rounds_succ]
      go_wp2_with (focus (at_builtin; go_must (refine buf_append _ rfl _ _ rfl base vb0 _ (by rfl) (HB0.out.buf.alloc _) _ _ rfl (slat_byte _ _ 58 rfl) (by simp) (by simp; omega) (by have := HB0.out.base; simp; omega) ?_)))
      intro vc0 wc0 hC0 hG0
      have HC0 := Lib.hid ((HB0.out.alloc _).step (m2 := [58]) (by simpa using hC0) hG0)
      clear hC0 hG0
      obtain ⟨c0, c1, c2, c3, c4⟩ := row5_facts HC0.out.box
      go_wp2_with fail
      refine (HV.out 1 _ (by omega)).mono ?_
      rintro e1 wa1 ⟨rfl, hb1⟩
      rw [show wd n 1 = 3512 from rfl]
      have HA1 := Lib.hid (HC0.out.on hb1)
      clear hb1 c0 c1 c2 c3 c4
      go_wp2_with fail
      refine (HX1.out _ _ _ _ HA1.out.buf HA1.out.base (by simp; omega)).mono ?_
      rintro e1 wb1 ⟨vb1, rfl, hB1, hG1⟩
      have HB1 := Lib.hid (HA1.out.step (m2 := [100, 98, 56]) (by simpa using hB1) hG1)
      clear hB1 hG1
      go_wp2_with fail
      rw [rounds_succ]
      go_wp2_with (focus (at_builtin; go_must (refine buf_append _ rfl _ _ rfl base vb1 _ (by rfl) (HB1.out.buf.alloc _) _ _ rfl (slat_colons _ _ rfl) (by simp) (by simp; omega) (by have := HB1.out.base; simp; omega) ?_)))
      intro vc1 wc1 hC1 hG1
      have HC1 := Lib.hid ((HB1.out.alloc _).step (m2 := [58, 58]) (by simpa using hC1) hG1)
      clear hC1 hG1
      rcases HE.out with ⟨rfl, rfl⟩ | ⟨rfl, h0⟩
      · obtain ⟨c0, c1, c2, c3, c4⟩ := row5_facts HC1.out.box
        go_wp2_with fail
        go_region_held3 (fun w' => w'.cell? ⟨w.heap.size, 2, none⟩ = some (.bool true) ∧ w'.cell? ⟨w.heap.size, 3, none⟩ = some (.bool true) ∧ w'.cell? ⟨w.heap.size, 4, none⟩ = some (.string ⟨#[]⟩)) (go_keep) (first | (go_at_call 163; refine (z6noz_any _).mono ?_; rintro e2 w9 ⟨rfl, hb⟩; unfold detail; have HZ9 := Lib.hid (HC1.out.on (below_tr (below_drewN (Below.refl _ _) 1) hb)); obtain ⟨d0, d1, d2, d3, d4⟩ := row5_facts HZ9.out.box; clear hb))
        clear c0 c1 c2 c3 c4 d0 d1 d2 d3 d4
        go_wp2_with fail
        go_ret
        exact HZ9.out.post (by rw [hexL_zero]; rfl)
      · have HX7 := Lib.hid (fun base v l w => appendHex_any n base v l w h0 hn)
        have HL := Lib.hid (hexL_length 4 n (by omega))
        have hl4 := HL.out
        obtain ⟨mn, hmn⟩ : ∃ m, m = hexL n := ⟨_, rfl⟩
        rw [← hmn] at HX7 hl4
        have HMN := Lib.hid hmn
        clear hmn
        obtain ⟨c0, c1, c2, c3, c4⟩ := row5_facts HC1.out.box
        go_wp2_with fail
        refine (HV.out 7 _ (by omega)).mono ?_
        rintro e1 wa7 ⟨rfl, hb7⟩
        rw [show wd n 7 = n from rfl]
        have HA7 := Lib.hid (HC1.out.on hb7)
        clear hb7 c0 c1 c2 c3 c4
        go_wp2_with fail
        refine (HX7.out _ _ _ _ HA7.out.buf HA7.out.base (by simp; omega)).mono ?_
        rintro e1 wb7 ⟨vb7, rfl, hB7, hG7⟩
        have HB7 := Lib.hid (HA7.out.step (m2 := mn) (by simpa using hB7) hG7)
        clear hB7 hG7
        go_wp2_with fail
        rw [rounds_succ]
        obtain ⟨c0, c1, c2, c3, c4⟩ := row5_facts HB7.out.box
        go_wp2_with fail
        go_region_held3 (fun w' => w'.cell? ⟨w.heap.size, 2, none⟩ = some (.bool true) ∧ w'.cell? ⟨w.heap.size, 3, none⟩ = some (.bool true) ∧ w'.cell? ⟨w.heap.size, 4, none⟩ = some (.string ⟨#[]⟩)) (go_keep) (first | (go_at_call 163; refine (z6noz_any _).mono ?_; rintro e2 w9 ⟨rfl, hb⟩; unfold detail; have HZ9 := Lib.hid (HB7.out.on (below_tr (below_drewN (Below.refl _ _) 1) hb)); obtain ⟨d0, d1, d2, d3, d4⟩ := row5_facts HZ9.out.box; clear hb))
        clear c0 c1 c2 c3 c4 d0 d1 d2 d3 d4
        go_wp2_with fail
        go_ret
        exact HZ9.out.post (by rw [← HMN.out]; rfl)

end Go.Proofs.YtnehofekgnbelaaGreatDoor

/-
  netip.Addr's Is4In6, AppendTo.
-/
namespace Go.Proofs.YtnehofekgnbelaaGreatDoor
open Go.RowKit
set_option linter.unusedVariables false
set_option maxRecDepth 100000
set_option maxHeartbeats 1000000

theorem is4In6_six (n : Nat) (w : World) :
    Calls Tryz.prog 134 #[naddr 2306139568115548160 n true] w (BelowPost w (.bool false)) := by
  have H6 := Lib.hid (fun w => is6_any 2306139568115548160 n w)
  unfold naddr at H6 ⊢
  go_enter Tryz.func134, Tryz.ntmps134
  go_wp2_with fail
  refine (H6.out _).mono ?_
  rintro e w2 ⟨rfl, hb⟩
  have hk := nz5_old' hb
  obtain ⟨c0, c1, c2, c3, c4⟩ := row5_facts hk.1
  have HB := Lib.hid hk.2
  clear hk hb
  go_wp2_with fail
  go_ret
  exact ⟨rfl, HB.out⟩

theorem appendTo_six (n : Nat) (base : Nat) (v : Value) (l : List UInt8) (w : World) (hn : n < 65536) (hB : Buf w base v l) (hb : base ≤ w.heap.size) (hl : l.length ≤ 900) :
    Calls Tryz.prog 89 #[naddr 2306139568115548160 n true, v] w (BufPost w base v l (preL ++ hexL n)) := by
  have hA := App.start hB hb (.cells #[.int .u64 ((2306139568115548160 : Nat) : Int), .int .u64 n, .bool true, .bool true, .string ⟨#[]⟩] 160)
  have H := Lib.hid hA
  have HI := Lib.hid (fun w => is4In6_six n w)
  have HT := Lib.hid (fun base v l w => appendTo6_any n base v l w hn)
  clear hA hB hn
  unfold naddr at HI HT ⊢
  go_enter Tryz.func89, Tryz.ntmps89
  go_wp2_with fail
  refine (z0_any _).mono ?_
  rintro e w2 ⟨rfl, hb2⟩
  have H2 := Lib.hid (H.out.on hb2)
  obtain ⟨c0, c1, c2, c3, c4⟩ := row5_facts H2.out.box
  clear hb2
  go_wp2_with fail
  refine (z4_any _).mono ?_
  rintro e w3 ⟨rfl, hb3⟩
  unfold detail
  have H3 := Lib.hid (H2.out.on hb3)
  clear c0 c1 c2 c3 c4
  obtain ⟨c0, c1, c2, c3, c4⟩ := row5_facts H3.out.box
  clear hb3
  go_wp2_with fail
  refine (HI.out _).mono ?_
  rintro e w4 ⟨rfl, hb4⟩
  have H4 := Lib.hid (H3.out.on hb4)
  clear c0 c1 c2 c3 c4
  obtain ⟨c0, c1, c2, c3, c4⟩ := row5_facts H4.out.box
  clear hb4
  go_wp2_with fail
  refine (HT.out _ _ _ _ H4.out.buf H4.out.base (by simp; omega)).mono ?_
  rintro e w5 ⟨v5, rfl, hB5, hG5⟩
  have H5 := Lib.hid (H4.out.step (m2 := preL ++ hexL n) (by simpa using hB5) hG5)
  clear c0 c1 c2 c3 c4 hB5 hG5
  go_wp2_with fail
  go_ret
  exact H5.out.post rfl

theorem appendTo_four (n : Nat) (base : Nat) (v : Value) (l : List UInt8) (w : World) (hn : n < 4294967296) (hB : Buf w base v l) (hb : base ≤ w.heap.size) (hl : l.length ≤ 900) :
    Calls Tryz.prog 89 #[naddr 0 (281470681743360 + n) false, v] w (BufPost w base v l (quadL n)) := by
  have HT := Lib.hid (fun base v l w => appendTo4_any n base v l w hn)
  obtain ⟨m, hm⟩ : ∃ m, m = quadL n := ⟨_, rfl⟩
  rw [← hm] at HT ⊢
  generalize 281470681743360 + n = lo at HT ⊢
  have hA := App.start hB hb (.cells #[.int .u64 ((0 : Nat) : Int), .int .u64 lo, .bool true, .bool false, .string ⟨#[]⟩] 160)
  have H := Lib.hid hA
  clear hA hB hn hm
  unfold naddr at HT ⊢
  go_enter Tryz.func89, Tryz.ntmps89
  go_wp2_with fail
  refine (z0_any _).mono ?_
  rintro e w2 ⟨rfl, hb2⟩
  have H2 := Lib.hid (H.out.on hb2)
  obtain ⟨c0, c1, c2, c3, c4⟩ := row5_facts H2.out.box
  clear hb2
  go_wp2_with fail
  refine (z4_any _).mono ?_
  rintro e w3 ⟨rfl, hb3⟩
  unfold detail
  have H3 := Lib.hid (H2.out.on hb3)
  clear c0 c1 c2 c3 c4
  obtain ⟨c0, c1, c2, c3, c4⟩ := row5_facts H3.out.box
  clear hb3
  go_wp2_with fail
  refine (HT.out _ _ _ _ H3.out.buf H3.out.base (by simp; omega)).mono ?_
  rintro e w5 ⟨v5, rfl, hB5, hG5⟩
  have H5 := Lib.hid (H3.out.step (m2 := m) (by simpa using hB5) hG5)
  clear c0 c1 c2 c3 c4 hB5 hG5
  go_wp2_with fail
  go_ret
  exact H5.out.post rfl

theorem appendTo_any (a : Ad) (base : Nat) (v : Value) (l : List UInt8) (w : World) (ok : a.ok) (hB : Buf w base v l) (hb : base ≤ w.heap.size) (hl : l.length ≤ 900) :
    Calls Tryz.prog 89 #[naddr a.hi a.lo a.six, v] w (BufPost w base v l a.text) := by
  obtain ⟨six, n⟩ := a
  cases six with
  | true => exact appendTo_six n base v l w (by simpa [Ad.ok] using ok) hB hb hl
  | false => exact appendTo_four n base v l w (by simpa [Ad.ok] using ok) hB hb hl

end Go.Proofs.YtnehofekgnbelaaGreatDoor

/-
  Texts put together: Add2, Addr6, Dtoi, Compare.
-/
import Derived.Test.YtnehofekgnbelaaGreatDoorM10
import Derived.Test.YtnehofekgnbelaaGreatDoorM9
import Derived.Laws.Bits64b
import Derived.Test.YtnehofekgnbelaaGreatDoorM8
import Derived.Test.YtnehofekgnbelaaGreatDoorM6
import Derived.Test.YtnehofekgnbelaaGreatDoorM1

/-
  cniip's whole.add.
-/
namespace Go.Proofs.YtnehofekgnbelaaGreatDoor
open Go.RowKit
set_option linter.unusedVariables false
set_option maxRecDepth 100000
set_option maxHeartbeats 1000000

/-- Bytes without noughts ahead that tell a number. -/
def NumPost8 (w : World) (N : Nat) (e : Ending) (w' : World) : Prop := ∃ v r, e = .returned v ∧ SlAt w' v (ipv r) ∧ strip r = r ∧ val r = N ∧ Below w.heap.size w w'

theorem strip_strip (l : List UInt8) : strip (strip l) = strip l := by
  rcases strip_head l with h | ⟨y, r, h, hy⟩
  · rw [h]; rfl
  · rw [h, strip_self hy]

theorem owns_built (w : World) (x : UInt8) : (w.alloc (.cells #[.int .u8 x.toNat] 5)).ownsRow w.heap.size 5 1 (.slice (some ⟨w.heap.size, 0, none⟩) 1 1) 1 (ipv [x]) :=
  ⟨rfl, .inr ⟨w.heap.size, 1, _, rfl, Nat.le_refl _, heap_alloc_new w _, Nat.le_refl _, by unfold maxLen; omega, rfl, rfl⟩⟩

theorem RowAt.of_owns {w : World} {base : Nat} {g n cap : Nat} {l : List UInt8} (h : w.ownsRow base 5 1 (.slice (some ⟨g, 0, none⟩) n cap) n (ipv l)) : RowAt w g l ∧ base ≤ g ∧ n ≤ cap ∧ cap ≤ maxLen ∧ n = l.length := by
  obtain ⟨hlen, h⟩ := h
  rw [ipv_length, Nat.mul_one] at hlen
  rcases h with ⟨h1, _⟩ | ⟨g', cap', cur, hv, hb, hg, hnc, hcm, _, ht⟩
  · cases h1
  · simp only [Value.slice.injEq, Option.some.injEq, Addr.mk.injEq, and_true] at hv
    obtain ⟨rfl, _, rfl⟩ := hv
    rw [Nat.mul_one, ← hlen] at ht
    exact ⟨⟨cur, hg, ht⟩, hb, hnc, hcm, hlen.symm⟩

theorem owns_form {w : World} {base n : Nat} {v : Value} {xs : List Value} (h : w.ownsRow base 5 1 v n xs) (hn : 0 < n) : ∃ g cap, v = .slice (some ⟨g, 0, none⟩) n cap := by
  rcases h.2 with ⟨_, h1⟩ | ⟨g, cap, _, hv, _⟩
  · omega
  · exact ⟨g, cap, hv⟩
theorem getD_zero (p : List UInt8) : ((0 : UInt8) :: p).getD 0 0 = 0 := rfl

/-- The world within: the row's bytes. -/
def AddRel (w : World) (g : Nat) (l : List UInt8) (wr : World) : Prop := RowAt wr g l ∧ Below w.heap.size w wr
theorem AddRel.store {w wr : World} {g : Nat} {l : List UInt8} (h : AddRel w g l wr) (hg : w.heap.size ≤ g) (i : Nat) (x : UInt8) : AddRel w g (l.set i x) (wr.setCell ⟨g, i, none⟩ (.int .u8 x.toNat)) :=
  ⟨h.1.store i x, h.2.setCell hg _⟩

theorem u8_up (x : UInt8) : ∃ y : UInt8, IntKind.u8.wrap ((x.toNat : Int) + 1) = (y.toNat : Int) ∧ (x = 255 → y = 0) ∧ (x ≠ 255 → y.toNat = x.toNat + 1) := by
  refine ⟨UInt8.ofNat (x.toNat + 1), ?_, ?_, ?_⟩
  · rw [IntKind.wrap_u8, toNat_ofNat]; omega
  · rintro rfl; rfl
  · intro h
    have hx := x.toNat_lt
    have : x.toNat ≠ 255 := fun e => h (UInt8.toNat_inj.1 e)
    rw [toNat_ofNat]
    omega
theorem u8_down (x : UInt8) : ∃ y : UInt8, IntKind.u8.wrap ((x.toNat : Int) + 255) = (y.toNat : Int) ∧ (x = 0 → y = 255) ∧ (x ≠ 0 → y.toNat + 1 = x.toNat) := by
  refine ⟨UInt8.ofNat (x.toNat + 255), ?_, ?_, ?_⟩
  · rw [IntKind.wrap_u8, toNat_ofNat]; omega
  · rintro rfl; rfl
  · intro h
    have hx := x.toNat_lt
    have : x.toNat ≠ 0 := fun e => h (UInt8.toNat_inj.1 e)
    rw [toNat_ofNat]
    omega

theorem add_up (v : Value) (p : List UInt8) (w : World) (hp : SlAt w v (ipv p)) (hn : p.length ≤ 1000) :
    Calls Tryz.prog 124 #[v, .int .i64 1] w (NumPost8 w (val p + 1)) := by
  obtain ⟨i0, hi, hz0, hz1, hz2⟩ := info_parts info5
  have HI := Lib.hid hi
  have HP := Lib.hid hp
  have HO := Lib.hid (owns_built w 0)
  rcases hp.out with ⟨h0, ao, cap, rfl, _⟩ | ⟨b, off, cap, rfl, hb, hl, hm, h0, hc⟩
  · obtain rfl : p = [] := by cases p; rfl; cases h0
    have HO1 := Lib.hid (owns_built w 1)
    clear hi hp h0
    go_enter Tryz.func124, Tryz.ntmps124
    go_wp2_with fail
    go_ret
    exact ⟨_, [1], rfl, SlAt.of_owns HO1.out, rfl, rfl, (Below.refl w.heap.size w).alloc (Nat.le_refl _) _⟩
  · rw [ipv_length] at h0 ⊢
    obtain ⟨n, hpn⟩ : ∃ n, n = p.length := ⟨_, rfl⟩
    rw [← hpn] at h0 hn ⊢
    have HN := Lib.hid hpn
    have HPK := Lib.hid (hp.keep ((Below.refl w.heap.size w).alloc (Nat.le_refl _) (.cells #[.int .u8 0] 5)))
    rw [ipv_length, ← hpn] at HPK
    clear hi hp hc hl hm hpn
    go_enter Tryz.func124, Tryz.ntmps124
    go_wp2_with (focus (at_builtin; go_must (refine wpList_append_slg _ rfl _ _ 207 rfl w.heap.size 5 i0 (.int .u8 0) 1 Tryz.underlying207 HI.out hz0 hz1 hz2 (by rfl) _ 1 (ipv [0]) rfl HO.out _ (ipv p) rfl HPK.out (ipv_one _) (by rw [ipv_length, ← HN.out]; exact h0) (by rw [ipv_length, ← HN.out]; unfold maxLen; omega) (by rw [ipv_length, ← HN.out]; omega) (by simp) ?_)))
    intro v1 w1 hown hg hblk
    have hown2 : w1.ownsRow w.heap.size 5 1 v1 (n + 1) (ipv (0 :: p)) := by
      rw [ipv_length, ← HN.out, Nat.add_comm] at hown
      exact hown
    obtain ⟨g, cap1, rfl⟩ := owns_form hown2 (by omega)
    obtain ⟨hrow, hgb, hc1, hc2, hlen⟩ := RowAt.of_owns hown2
    have hb1 : Below w.heap.size w w1 := ((Below.refl w.heap.size w).alloc (Nat.le_refl _) _).grown hg (by simp) fun b hb => by
      cases hb
      exact Nat.le_refl _
    have HR := Lib.hid (show AddRel w g (0 :: p) w1 from ⟨hrow, hb1⟩)
    have HC := Lib.hid (show cap1 ≤ maxLen from hc2)
    have HLEN := Lib.hid (show (0 :: p).length = n + 1 from hlen.symm)
    have hc3 : cap1 ≤ 9223372036854775807 := by unfold maxLen at hc2; omega
    clear hown hown2 hg hblk hrow hb1 hc2 hlen
    go_wp2_with fail
    go_loopw [6] (fun i wr => ∃ (k : Nat) (cur : List UInt8), i = .int .i64 k ∧ k ≤ n ∧ Hid (Inc (0 :: p) 0 255 k cur ∧ AddRel w g cur wr)) (fun i _ => (intOf i).toNat)
    case atStart => exact ⟨n, 0 :: p, by simp, Nat.le_refl _, by have := Inc.start (0 :: p) 0 255 (by simp); rw [HLEN.out] at this; exact this, HR.out⟩
    case round =>
      obtain ⟨k, cur, rfl, hk, hr⟩ := hrel
      obtain ⟨hinc, hrel2⟩ := hr.out
      have hcl := hinc.len
      rw [HLEN.out] at hcl
      have ck := hrel2.1.cell k (by omega)
      have zk := hrel2.1.free k
      rw [hinc.at] at ck
      obtain ⟨y, hy, hy1, hy2⟩ := u8_up ((0 :: p).getD k 0)
      have HY := Lib.hid (show (0 :: p).getD k 0 = 255 → y = 0 ∧ True from fun h => ⟨hy1 h, trivial⟩)
      have HY2 := Lib.hid hy2
      have HX := Lib.hid (show k = 0 → (0 :: p).getD k 0 = 0 from fun h => by rw [h]; rfl)
      have HINC := Lib.hid hinc
      have HREL := Lib.hid hrel2
      have HCL := Lib.hid hcl
      generalize hgx : (0 :: p).getD k 0 = x at ck hy hy1 hy2 HY HY2 HX
      have HGX := Lib.hid hgx
      clear hinc hrel2 hcl hy1 hy2 hgx
      by_cases hx : x = 255
      · have hy0 : y = 0 := (HY.out hx).1
        subst hy0
        have hk0 : k ≠ 0 := fun h => by have := HX.out h; rw [this] at hx; exact absurd hx (by decide)
        obtain ⟨k', rfl⟩ : ∃ k', k = k' + 1 := ⟨k - 1, by omega⟩
        have HXX := Lib.hid hx
        clear hx
        go_wp2_with fail
        go_roundw
        case rel => exact ⟨k', cur.set (k' + 1) 0, rfl, by omega, HINC.out.next (by rw [HGX.out]; exact HXX.out), HREL.out.store hgb (k' + 1) 0⟩
        case measure => simp [intOf]
      · have hyx := HY2.out hx
        have t1 : ((y.toNat : Int) != 0) = true := by rw [bne_iff_ne]; omega
        have HYX := Lib.hid hyx
        have HST := Lib.hid (HREL.out.store hgb k y)
        have HVAL := Lib.hid (show val (cur.set k y) = val p + 1 by
          have := HINC.out.up y (by rw [HGX.out]; exact hyx)
          rw [this, val_cons]
          simp)
        clear hx hyx
        go_wp2_with fail
        refine (setBytes_any _ (cur.set k y) _ (by
          have := HST.out.1.sl (cap := cap1) (by rw [List.length_set, HCL.out]; omega) HC.out
          rw [List.length_set, HCL.out] at this
          exact this) (by rw [List.length_set, HCL.out]; omega)).mono ?_
        rintro e w2 ⟨v2, rfl, hs2, hb2⟩
        have HS2 := Lib.hid hs2
        have HB2 := Lib.hid (below_tr HST.out.2 hb2)
        clear hs2 hb2
        go_wp2_with fail
        go_ret
        exact ⟨_, _, rfl, HS2.out, strip_strip _, by rw [val_strip]; exact HVAL.out, HB2.out⟩

theorem add_down (v : Value) (p : List UInt8) (w : World) (hp : SlAt w v (ipv p)) (hn : p.length ≤ 1000) (hs : strip p = p) (h1 : 0 < p.length) :
    Calls Tryz.prog 124 #[v, .int .i64 (-1)] w (NumPost8 w (val p - 1)) := by
  obtain ⟨i0, hi, hz0, hz1, hz2⟩ := info_parts info5
  have HI := Lib.hid hi
  have HP := Lib.hid hp
  have HO := Lib.hid (owns_built w 0)
  have HHD := Lib.hid (show p.getD 0 0 ≠ 0 by
    rcases strip_head p with h | ⟨y, r, h, hy⟩
    · rw [hs] at h; rw [h] at h1; simp at h1
    · rw [hs] at h; rw [h]; exact hy)
  rcases hp.out with ⟨h0, ao, cap, rfl, _⟩ | ⟨b, off, cap, rfl, hb, hl, hm, h0, hc⟩
  · exfalso
    obtain rfl : p = [] := by cases p; rfl; cases h0
    simp at h1
  · rw [ipv_length] at h0 ⊢
    obtain ⟨n, hpn⟩ : ∃ n, n = p.length := ⟨_, rfl⟩
    rw [← hpn] at h0 hn ⊢
    have HN := Lib.hid hpn
    have HPK := Lib.hid (hp.keep ((Below.refl w.heap.size w).alloc (Nat.le_refl _) (.cells #[.int .u8 0] 5)))
    rw [ipv_length, ← hpn] at HPK
    clear hi hp hc hl hm hpn hs h1
    go_enter Tryz.func124, Tryz.ntmps124
    go_wp2_with (focus (at_builtin; go_must (refine wpList_append_slg _ rfl _ _ 207 rfl w.heap.size 5 i0 (.int .u8 0) 1 Tryz.underlying207 HI.out hz0 hz1 hz2 (by rfl) _ 1 (ipv [0]) rfl HO.out _ (ipv p) rfl HPK.out (ipv_one _) (by rw [ipv_length, ← HN.out]; exact h0) (by rw [ipv_length, ← HN.out]; unfold maxLen; omega) (by rw [ipv_length, ← HN.out]; omega) (by simp) ?_)))
    intro v1 w1 hown hg hblk
    have hown2 : w1.ownsRow w.heap.size 5 1 v1 (n + 1) (ipv (0 :: p)) := by
      rw [ipv_length, ← HN.out, Nat.add_comm] at hown
      exact hown
    obtain ⟨g, cap1, rfl⟩ := owns_form hown2 (by omega)
    obtain ⟨hrow, hgb, hc1, hc2, hlen⟩ := RowAt.of_owns hown2
    have hb1 : Below w.heap.size w w1 := ((Below.refl w.heap.size w).alloc (Nat.le_refl _) _).grown hg (by simp) fun b hb => by
      cases hb
      exact Nat.le_refl _
    have HR := Lib.hid (show AddRel w g (0 :: p) w1 from ⟨hrow, hb1⟩)
    have HC := Lib.hid (show cap1 ≤ maxLen from hc2)
    have HLEN := Lib.hid (show (0 :: p).length = n + 1 from hlen.symm)
    have hc3 : cap1 ≤ 9223372036854775807 := by unfold maxLen at hc2; omega
    clear hown hown2 hg hblk hrow hb1 hc2 hlen
    go_wp2_with fail
    go_loopw [6] (fun i wr => ∃ (k : Nat) (cur : List UInt8), i = .int .i64 k ∧ k ≤ n ∧ 1 ≤ k ∧ Hid (Inc (0 :: p) 255 0 k cur ∧ AddRel w g cur wr)) (fun i _ => (intOf i).toNat)
    case atStart => exact ⟨n, 0 :: p, by simp, Nat.le_refl _, by omega, by have := Inc.start (0 :: p) 255 0 (by simp); rw [HLEN.out] at this; exact this, HR.out⟩
    case round =>
      obtain ⟨k, cur, rfl, hk, hk1, hr⟩ := hrel
      obtain ⟨hinc, hrel2⟩ := hr.out
      have hcl := hinc.len
      rw [HLEN.out] at hcl
      have ck := hrel2.1.cell k (by omega)
      have zk := hrel2.1.free k
      rw [hinc.at] at ck
      obtain ⟨y, hy, hy1, hy2⟩ := u8_down ((0 :: p).getD k 0)
      have HY := Lib.hid (show (0 :: p).getD k 0 = 0 → y = 255 ∧ True from fun h => ⟨hy1 h, trivial⟩)
      have HY2 := Lib.hid hy2
      have HX := Lib.hid (show k = 1 → (0 :: p).getD k 0 ≠ 0 from fun h => by rw [h]; exact HHD.out)
      have HINC := Lib.hid hinc
      have HREL := Lib.hid hrel2
      have HCL := Lib.hid hcl
      generalize hgx : (0 :: p).getD k 0 = x at ck hy hy1 hy2 HY HY2 HX
      have HGX := Lib.hid hgx
      clear hinc hrel2 hcl hy1 hy2 hgx
      by_cases hx : x = 0
      · have hy0 : y = 255 := (HY.out hx).1
        subst hy0
        have hk0 : k ≠ 1 := fun h => HX.out h hx
        obtain ⟨k', rfl⟩ : ∃ k', k = k' + 1 := ⟨k - 1, by omega⟩
        have HXX := Lib.hid hx
        clear hx
        go_wp2_with fail
        go_roundw
        case rel => exact ⟨k', cur.set (k' + 1) 255, rfl, by omega, by omega, HINC.out.next (by rw [HGX.out]; exact HXX.out), HREL.out.store hgb (k' + 1) 255⟩
        case measure => simp [intOf]
      · have hyx := HY2.out hx
        have hx256 := x.toNat_lt
        have t1 : ((y.toNat : Int) != 255) = true := by rw [bne_iff_ne]; omega
        have HYX := Lib.hid hyx
        have HST := Lib.hid (HREL.out.store hgb k y)
        have HVAL := Lib.hid (show val (cur.set k y) = val p - 1 by
          have := HINC.out.down y (by rw [HGX.out]; exact hyx)
          rw [val_cons] at this
          simp at this
          omega)
        clear hx hyx hx256
        go_wp2_with fail
        refine (setBytes_any _ (cur.set k y) _ (by
          have := HST.out.1.sl (cap := cap1) (by rw [List.length_set, HCL.out]; omega) HC.out
          rw [List.length_set, HCL.out] at this
          exact this) (by rw [List.length_set, HCL.out]; omega)).mono ?_
        rintro e w2 ⟨v2, rfl, hs2, hb2⟩
        have HS2 := Lib.hid hs2
        have HB2 := Lib.hid (below_tr HST.out.2 hb2)
        clear hs2 hb2
        go_wp2_with fail
        go_ret
        exact ⟨_, _, rfl, HS2.out, strip_strip _, by rw [val_strip]; exact HVAL.out, HB2.out⟩

end Go.Proofs.YtnehofekgnbelaaGreatDoor

/-
  ParseAddr, ParseIP, plain and addressOf of any address.
-/
namespace Go.Proofs.YtnehofekgnbelaaGreatDoor
open Go.RowKit
set_option linter.unusedVariables false
set_option maxRecDepth 100000
set_option maxHeartbeats 1000000

theorem parseAddr_six (s : ByteArray) (n : Nat) (w : World) (hs : bl s = preL ++ hexL n) (hl : (hexL n).length ≤ 4) :
    Calls Tryz.prog 137 #[.string s] w (ParsedPost w (naddr 2306139568115548160 n true)) := by
  have HP := Lib.hid (fun w => parseIPv6_any s n w hs hl)
  have hsz2 : 10 ≤ s.size := by
    rw [← bl_length, hs, List.length_append, show preL.length = 10 from rfl]
    omega
  have hsz : s.size ≤ 14 := by
    rw [← bl_length, hs, List.length_append, show preL.length = 10 from rfl]
    omega
  have hg : ∀ k, (h : k < s.size) → s[k] = (preL ++ hexL n).getD k 0 := fun k h => by rw [← bl_getD s k h, hs]
  have v0 : (s[0].toNat : Int) = 50 := by rw [hg 0 (by omega)]; rfl
  have v1 : (s[1].toNat : Int) = 48 := by rw [hg 1 (by omega)]; rfl
  have v2 : (s[2].toNat : Int) = 48 := by rw [hg 2 (by omega)]; rfl
  have v3 : (s[3].toNat : Int) = 49 := by rw [hg 3 (by omega)]; rfl
  have v4 : (s[4].toNat : Int) = 58 := by rw [hg 4 (by omega)]; rfl
  clear hg hs hl
  go_enter Tryz.func137, Tryz.ntmps137
  go_wp2_with fail
  refine wp_loop_rounds 5 ?_
  rw [rounds_succ]
  go_wp2_with fail
  rw [rounds_succ]
  go_wp2_with fail
  rw [rounds_succ]
  go_wp2_with fail
  rw [rounds_succ]
  go_wp2_with fail
  rw [rounds_succ]
  go_wp2_with fail
  refine (HP.out _).mono ?_
  rintro e w2 ⟨rfl, hb⟩
  obtain ⟨hres, hbw⟩ := nz5_old hb
  obtain ⟨q0, q1, q2, q3, q4, f0, f1, f2, f3, f4⟩ := nz5_facts hres
  have HB := Lib.hid hbw
  clear hb hres hbw
  unfold naddr
  go_wp2_with fail
  exact bodyPost_ret (v := .tuple #[naddr 2306139568115548160 n true, .nilIface]) (by simp [results, Tryz.results137, go_sem, naddr, q0, q1, q2, q3, q4]) rfl ⟨rfl, below_set5 HB.out (Nat.le_refl _) _ _ _ _ _⟩

/-- The two halves of an address, as netip has them. -/
def Ad.hi (a : Ad) : Nat := if a.six then 2306139568115548160 else 0
def Ad.lo (a : Ad) : Nat := if a.six then a.n else 281470681743360 + a.n
theorem parseAddr_any (s : ByteArray) (a : Ad) (w : World) (h : readL (bl s) = some a) (hs : s.size ≤ 1000) :
    Calls Tryz.prog 137 #[.string s] w (ParsedPost w (naddr a.hi a.lo a.six)) := by
  obtain ⟨six, n⟩ := a
  cases six with
  | true =>
    have h1 := readL_true h rfl
    exact parseAddr_six s n w h1.1 h1.2
  | false => exact parseAddr_four s n w (readL_false h rfl) hs
theorem lo_lt (a : Ad) (h : a.ok) : a.hi < 18446744073709551616 ∧ a.lo < 18446744073709551616 := by
  unfold Ad.ok at h
  unfold Ad.hi Ad.lo
  cases hs : a.six <;> rw [hs] at h <;> simp at h ⊢ <;> omega
theorem as16_long (a : Ad) (h : a.ok) : as16L a.hi a.lo = (a.long.map u8v).toArray := by
  obtain ⟨six, n⟩ := a
  cases six with
  | true => exact long_six n (by simpa [Ad.ok] using h)
  | false => exact long_four n (by simpa [Ad.ok] using h)

theorem ParseIP_ad (s : ByteArray) (a : Ad) (w : World) (h : readL (bl s) = some a) (hs : s.size ≤ 1000) :
    Calls Tryz.prog 66 #[.string s] w (IPPost w a.long) :=
  have ok := readL_ok h
  ParseIP_any s a.hi a.lo a.six a.long w (lo_lt a ok).1 (lo_lt a ok).2 a.long_length (as16_long a ok) (fun w => parseAddr_any s a w h hs)

theorem plain1_any (x : UInt8) (w : World) (b : Bool) (hb : ((x.toNat : Int) != 0) = b) :
    Calls Tryz.prog 97 #[.int .u8 x.toNat] w (fun e w' => e = .returned (.bool b) ∧ w = w') := by
  go_enter Tryz.func97, Tryz.ntmps97
  go_wp2
  go_ret
  exact ⟨rfl, rfl⟩

/-- The first byte is not nought: the search ends at once. -/
theorem index1_any (b off n cap : Nat) (x : UInt8) (w : World) (hn : 0 < n) (hm : n ≤ 1000) (hx : ((x.toNat : Int) != 0) = true) (hc : w.cell? ⟨b, off, none⟩ = some (.int .u8 x.toNat)) :
    Calls Tryz.prog 140 #[.slice (some ⟨b, off, none⟩) n cap, .func (.func 97) #[] #[]] w (fun e w' => e = .returned (.int .i64 0) ∧ w = w') := by
  go_enter Tryz.func140, Tryz.ntmps140
  go_wp2_with fail
  refine wp_loop_rounds 1 ?_
  rw [rounds_succ]
  go_wp2_with fail
  refine (plain1_any x _ true hx).mono ?_
  rintro e w' ⟨rfl, rfl⟩
  go_wp2_with fail
  go_ret
  exact ⟨rfl, rfl⟩
theorem contains1_any (b off n cap : Nat) (x : UInt8) (w : World) (hn : 0 < n) (hm : n ≤ 1000) (hx : ((x.toNat : Int) != 0) = true) (hc : w.cell? ⟨b, off, none⟩ = some (.int .u8 x.toNat)) :
    Calls Tryz.prog 96 #[.slice (some ⟨b, off, none⟩) n cap, .func (.func 97) #[] #[]] w (fun e w' => e = .returned (.bool true) ∧ w = w') := by
  have H := Lib.hid (index1_any b off n cap x w hn hm hx hc)
  clear hx hc hn hm
  go_enter Tryz.func96, Tryz.ntmps96
  go_wp2_with fail
  refine H.out.mono ?_
  rintro e w' ⟨rfl, rfl⟩
  go_wp2_with fail
  go_ret
  exact ⟨rfl, rfl⟩

theorem plain_six (v : Value) (n : Nat) (w : World) (h : LongAt w v ⟨true, n⟩) :
    Calls Tryz.prog 67 #[v] w (fun e w' => e = .returned (.bool true) ∧ w = w') := by
  have hnil := fun w a n c => run_neq_slice_nil_any (P := Tryz.prog) w 67 5 a n c 0 0 Tryz.underlying67
  have HT := Lib.hid (to4_any v ⟨true, n⟩ w (.inl h))
  obtain ⟨b, off, cap, rfl, hb, hl, hm, hc⟩ := IPAt.out h
  rw [Ad.long_length] at hl hc HT ⊢
  have c0 := hc 0 (by omega)
  have HC := Lib.hid (contains1_any b off 10 cap 32 w (by omega) (by omega) rfl c0)
  clear h hc c0
  go_enter Tryz.func67, Tryz.ntmps67
  go_wp2_with fail
  refine HT.out.mono ?_
  rintro e w' ⟨v', rfl, hv, rfl⟩
  obtain rfl : v' = .slice none 0 0 := hv
  go_wp2_with fail
  refine HC.out.mono ?_
  rintro e w' ⟨rfl, rfl⟩
  go_wp2_with fail
  go_ret
  exact ⟨rfl, rfl⟩
theorem plain_any (v : Value) (a : Ad) (w : World) (h : LongAt w v a) :
    Calls Tryz.prog 67 #[v] w (fun e w' => e = .returned (.bool true) ∧ w = w') := by
  obtain ⟨six, n⟩ := a
  cases six with
  | true => exact plain_six v n w h
  | false => exact plain_four v n w h

theorem addressOf_any (s : ByteArray) (a : Ad) (w : World) (h : readL (bl s) = some a) (hs : s.size ≤ 1000) :
    Calls Tryz.prog 39 #[.string s] w (IPPost w a.long) := by
  have hnil := fun w a n c => Lib.run_eql_slice_nil (P := Tryz.prog) w 67 5 a n c 0 0 Tryz.underlying67
  have HP := Lib.hid (ParseIP_ad s a w h hs)
  clear h
  go_enter Tryz.func39, Tryz.ntmps39
  go_wp2_with fail
  refine HP.out.mono ?_
  rintro e w' ⟨v, rfl, hv, hb⟩
  have HV := Lib.hid hv
  have HB := Lib.hid hb
  have ho := IPAt.out hv
  rw [Ad.long_length] at ho
  obtain ⟨b, off, cap, rfl, _⟩ := ho
  clear hv hb
  go_wp2_with fail
  refine (plain_any _ a _ HV.out).mono ?_
  rintro e w2 ⟨rfl, rfl⟩
  go_wp2_with fail
  go_ret
  exact ⟨_, rfl, HV.out, HB.out⟩

end Go.Proofs.YtnehofekgnbelaaGreatDoor

/-
  net's cut and dtoi; netip.Addr.BitLen.
-/
namespace Go.Proofs.YtnehofekgnbelaaGreatDoor
open Go.RowKit
set_option linter.unusedVariables false
set_option maxRecDepth 100000
set_option maxHeartbeats 1000000

theorem netCut_any (s : ByteArray) (w : World) (hs : s.size ≤ 1000) :
    Calls Tryz.prog 150 #[.string s] w (CutPost (bl s) 47 w) := by
  go_enter Tryz.func150, Tryz.ntmps150
  go_wp2
  go_loop [5] (fun i => ∃ k : Nat, k ≤ s.size ∧ i = .int .i64 k ∧ Hid (∀ b ∈ (bl s).take k, b ≠ 47)) (fun i => s.size - (intOf i).toNat)
  case atStart => exact ⟨0, Nat.zero_le _, rfl, fun b hb => by simp at hb⟩
  case round =>
    obtain ⟨k, hk, rfl, hall⟩ := hrel
    by_cases hlt : k < s.size
    · by_cases hq : s[k] = 47
      · have hb : ((s[k].toNat : Int) == 47) = true := by rw [hq]; rfl
        have HQ := Lib.hid hq
        clear hq
        go_wp2
        go_quiet (fail)
        go_wp2
        go_ret3
        have hl : bl s = (bl s).take k ++ 47 :: (bl s).drop (k + 1) := by
          rw [← HQ.out, ← bl_drop s k hlt, List.take_append_drop]
        have hn : cutL 47 (bl s) = ((bl s).take k, (bl s).drop (k + 1), true) := by
          rw [hl, cutL_at 47 _ _ hall.out, ← hl]
        refine ⟨s.extract 0 k, s.extract (k + 1) s.size, by rw [hn]; rfl, ?_, ?_, nq, rfl⟩
        · rw [hn]; simp [bl]
        · rw [hn]; exact Lib.extract_to_end s (k + 1)
      · have hb : ((s[k].toNat : Int) == 47) = false := by
          rw [beq_eq_false_iff_ne]
          intro h
          exact hq (UInt8.toNat_inj.1 (by show s[k].toNat = 47; omega))
        have HQ := Lib.hid hq
        clear hq
        go_wp2
        go_round
        case rel => exact ⟨k + 1, by omega, by go_num, fun b hb => by
          rw [bl_take s k hlt, List.mem_append, List.mem_singleton] at hb
          rcases hb with hb | rfl
          · exact hall.out b hb
          · exact HQ.out⟩
        case measure => simp [intOf]; omega
    · obtain rfl : k = s.size := by omega
      go_wp2
      go_ret3
      have hn := cutL_none 47 (bl s) (fun b hb => hall.out b (by rw [List.take_of_length_le (by rw [bl_length]; exact Nat.le_refl _)]; exact hb))
      exact ⟨s, ByteArray.empty, by rw [hn]; rfl, by rw [hn], by rw [hn]; rfl, 0, rfl⟩

/-- A number in decimal, small. -/
theorem dtoi_any (s : ByteArray) (k : Nat) (w : World) (hall : (bl s).all isDig = true) (h0 : 0 < s.size) (hs : s.size ≤ 1000) (hv : valL (bl s) = k) (hk : k ≤ 1000) :
    Calls Tryz.prog 151 #[.string s] w (fun e w' => e = .returned (.tuple #[.int .i64 k, .int .i64 s.size, .bool true]) ∧ w = w') := by
  have HA := Lib.hid hall
  have HV := Lib.hid hv
  clear hall hv
  go_enter Tryz.func151, Tryz.ntmps151
  go_wp2
  go_loop [2, 3] (fun n i => ∃ j : Nat, j ≤ s.size ∧ i = .int .i64 j ∧ ∃ g : Int, n = .int .i64 g ∧ 0 ≤ g ∧ g ≤ 1000 ∧ Hid (g = valL ((bl s).take j))) (fun _ i => s.size - (intOf i).toNat)
  case atStart => exact ⟨0, Nat.zero_le _, rfl, 0, rfl, by omega, by omega, rfl⟩
  case round =>
    obtain ⟨j, hj, rfl, g, rfl, g0, g1, hg⟩ := hrel
    by_cases hlt : j < s.size
    · have hts := bl_take s j hlt
      have hvs := valL_snoc ((bl s).take j) s[j]
      have hd : isDig s[j] = true := by
        have := HA.out
        rw [List.all_eq_true] at this
        exact this _ (mem_take_bl s j hlt)
      have hd1 : 48 ≤ (s[j].toNat : Int) := (of_decide_eq_true hd).1
      have hd2 : (s[j].toNat : Int) ≤ 57 := (of_decide_eq_true hd).2
      rw [← hts, ← hg.out] at hvs
      have hm := valL_mono ((bl s).take (j + 1)) ((bl s).drop (j + 1)) (by rw [List.take_append_drop]; exact HA.out)
      rw [List.take_append_drop, HV.out, hvs] at hm
      have HVS := Lib.hid hvs
      clear hts hvs hd
      go_wp2
      go_round
      case rel => exact ⟨j + 1, by omega, by go_num, 10 * g + ((s[j].toNat : Int) - 48), by first | rfl | (refine int_eq ?_; omega), by omega, by omega, HVS.out.symm⟩
      case measure => simp [intOf]; omega
    · obtain rfl : j = s.size := by omega
      obtain rfl : g = (k : Int) := by rw [hg.out, List.take_of_length_le (by rw [bl_length]; exact Nat.le_refl _), HV.out]
      go_wp2
      go_ret3
      exact ⟨rfl, rfl⟩

theorem bitLen_six (hi lo : Nat) (w : World) :
    Calls Tryz.prog 152 #[naddr hi lo true] w (BelowPost w (.int .i64 128)) := by
  unfold naddr
  go_enter Tryz.func152, Tryz.ntmps152
  go_wp2_with fail
  refine (z0_any _).mono ?_
  rintro e w2 ⟨rfl, hb2⟩
  have HB2 := Lib.hid (below_tr ((Below.refl w.heap.size w).alloc (Nat.le_refl _) _) hb2)
  clear hb2
  go_wp2_with fail
  refine (z4_any _).mono ?_
  rintro e w3 ⟨rfl, hb3⟩
  have HB3 := Lib.hid (below_tr HB2.out hb3)
  clear hb3
  unfold detail
  go_wp2_with fail
  go_ret
  exact ⟨rfl, HB3.out⟩
theorem bitLen_four (hi lo : Nat) (w : World) :
    Calls Tryz.prog 152 #[naddr hi lo false] w (BelowPost w (.int .i64 32)) := by
  unfold naddr
  go_enter Tryz.func152, Tryz.ntmps152
  go_wp2_with fail
  refine (z0_any _).mono ?_
  rintro e w2 ⟨rfl, hb2⟩
  have HB2 := Lib.hid (below_tr ((Below.refl w.heap.size w).alloc (Nat.le_refl _) _) hb2)
  clear hb2
  go_wp2_with fail
  refine (z4_any _).mono ?_
  rintro e w3 ⟨rfl, hb3⟩
  have HB3 := Lib.hid (below_tr HB2.out hb3)
  clear hb3
  unfold detail
  go_wp2_with fail
  go_ret
  exact ⟨rfl, HB3.out⟩
theorem bitLen_any (hi lo : Nat) (a : Ad) (w : World) :
    Calls Tryz.prog 152 #[naddr hi lo a.six] w (BelowPost w (.int .i64 ((8 * a.width : Nat) : Int))) := by
  obtain ⟨six, n⟩ := a
  cases six with
  | true => exact bitLen_six hi lo w
  | false => exact bitLen_four hi lo w

end Go.Proofs.YtnehofekgnbelaaGreatDoor

/-
  The law FnCompare.
-/
namespace Go.Proofs.YtnehofekgnbelaaGreatDoor
open Go.RowKit
set_option linter.unusedVariables false
set_option maxRecDepth 100000
set_option maxHeartbeats 1000000

/- HOW LONG THE TEXT OF AN ADDRESS IS -/
theorem fold_ge (r : List UInt8) : ∀ n : Int, 0 ≤ n → r.all isDig = true → n * 10 ^ r.length ≤ r.foldl (fun n b => 10 * n + ((b.toNat : Int) - 48)) n := by
  induction r with
  | nil => intro n _ _; simp
  | cons b r ih =>
    intro n hn h
    rw [List.all_cons, Bool.and_eq_true] at h
    have hb : 48 ≤ (b.toNat : Int) := (of_decide_eq_true h.1).1
    have h1 := ih (10 * n + ((b.toNat : Int) - 48)) (by omega) h.2
    have h2 : (10 * n) * 10 ^ r.length ≤ (10 * n + ((b.toNat : Int) - 48)) * 10 ^ r.length := Int.mul_le_mul_of_nonneg_right (by omega) (Int.pow_nonneg (by omega))
    have h3 : n * 10 ^ (r.length + 1) = (10 * n) * 10 ^ r.length := by rw [Int.pow_succ, ← Int.mul_assoc, Int.mul_comm (n * _) 10, Int.mul_assoc]
    rw [List.length_cons, h3]
    exact Int.le_trans h2 h1
theorem num_length {l : List UInt8} (h : numOK 255 l = true) : l.length ≤ 3 := by
  obtain ⟨h1, h2, h3, h4⟩ := numOK_dig h
  cases l with
  | nil => simp
  | cons b r =>
    rw [List.all_cons, Bool.and_eq_true] at h2
    have hb : 48 ≤ (b.toNat : Int) := (of_decide_eq_true h2.1).1
    by_cases hz : 1 < (b :: r).length
    · have hne : b ≠ 48 := fun e => h3 ⟨hz, by rw [e]; rfl⟩
      have hb2 : (b.toNat : Int) ≠ 48 := fun e => hne (UInt8.toNat_inj.1 (by show b.toNat = 48; omega))
      have h5 := fold_ge r ((b.toNat : Int) - 48) (by omega) h2.2
      have h6 : valL (b :: r) = r.foldl (fun n b => 10 * n + ((b.toNat : Int) - 48)) ((b.toNat : Int) - 48) := by
        simp [valL]
      rw [← h6] at h5
      have h7 : (1 : Int) * 10 ^ r.length ≤ ((b.toNat : Int) - 48) * 10 ^ r.length := Int.mul_le_mul_of_nonneg_right (by omega) (Int.pow_nonneg (by omega))
      rw [List.length_cons]
      by_cases h8 : r.length ≤ 2
      · omega
      · exfalso
        have h9 : (10 : Nat) ^ 3 ≤ 10 ^ r.length := Nat.pow_le_pow_right (by decide) (by omega)
        have h10 : ((10 ^ 3 : Nat) : Int) ≤ ((10 ^ r.length : Nat) : Int) := by exact_mod_cast h9
        rw [show ((10 ^ r.length : Nat) : Int) = (10 : Int) ^ r.length by simp] at h10
        have : ((10 ^ 3 : Nat) : Int) = 1000 := by decide
        omega
    · omega
theorem cutL_all (c : UInt8) (l : List UInt8) : l.length ≤ (cutL c l).1.length + 1 + (cutL c l).2.1.length ∧ ((cutL c l).2.2 = false → l.length = (cutL c l).1.length) := by
  induction l with
  | nil => simp [cutL]
  | cons b r ih =>
    by_cases hb : b = c
    · simp [cutL, hb]; omega
    · simp only [cutL, if_neg hb, List.length_cons]
      exact ⟨by omega, fun h => by rw [ih.2 h]⟩
theorem quad_length (k : Nat) : ∀ (l : List UInt8) (n N : Nat), quadN k l n = some N → l.length ≤ 4 * k + 3 := by
  induction k with
  | zero =>
    intro l n N h
    have hq := quad_ok h
    have h1 := num_length hq.1
    have h2 := (cutL_all 46 l).2 (by rw [hq.2.1]; rfl)
    omega
  | succ k ih =>
    intro l n N h
    have hq := quad_ok h
    have h1 := num_length hq.1
    have h2 := (cutL_all 46 l).1
    have h3 := hq.2.2
    rw [if_neg (by omega)] at h3
    have := ih _ _ _ h3
    omega
theorem addr_length {s : ByteArray} {a : Ad} (h : readL (bl s) = some a) : s.size ≤ 15 := by
  rw [← bl_length]
  cases h6 : a.six with
  | true =>
    have h1 := readL_true h h6
    have h2 := congrArg List.length h1.1
    rw [List.length_append, show preL.length = 10 from rfl] at h2
    omega
  | false => exact quad_length 3 _ _ _ (readL_false h h6)

theorem slat_two_at (W : World) (b : Nat) (s t : ByteArray) (hb : W.heap.size = b) : SlAt (W.alloc (.cells #[.string s, .string t] 9)) (.slice (some ⟨b, 0, none⟩) 2 2) (strVals [s, t]) := by
  subst hb
  exact SlAt.mk (xs := strVals [s, t]) (by simp [strVals]) (by unfold maxLen; simp) fun i hi => by
    have : i = 0 ∨ i = 1 := by simp [strVals] at hi; omega
    rcases this with rfl | rfl <;> simp [strVals, go_sem]
theorem slat_one_at (W : World) (b : Nat) (s : ByteArray) (hb : W.heap.size = b) : SlAt (W.alloc (.cells #[.string s] 9)) (.slice (some ⟨b, 0, none⟩) 1 1) (strVals [s]) := by
  subst hb
  exact slat_one W s

theorem longIn_small (ss : List ByteArray) (h : ∀ s ∈ ss, s.size ≤ 64) : longIn ss = false := by
  unfold longIn
  rw [List.any_eq_false]
  intro s hs
  have := h s hs
  simp
  omega


def LawPost (w : World) (e : Ending) (w' : World) : Prop := e = .returned (.bool true) ∧ Below w.heap.size w w'


end Go.Proofs.YtnehofekgnbelaaGreatDoor

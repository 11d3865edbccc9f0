/-
  Texts put together: NextIP, Cidr.
-/
import Derived.Test.YtnehofekgnbelaaGreatDoorM11
import Derived.Test.YtnehofekgnbelaaGreatDoorM9
import Derived.Laws.OwnMore
import Derived.Test.YtnehofekgnbelaaGreatDoorM3

/-
  cniip's bytes, intToIP, NextIP, PrevIP.
-/
namespace Go.Proofs.YtnehofekgnbelaaGreatDoor
open Go.RowKit
set_option linter.unusedVariables false
set_option maxRecDepth 100000
set_option maxHeartbeats 1000000

theorem bytes_any (v : Value) (r : List UInt8) (w : World) (h : SlAt w v (ipv r)) (hn : r.length ≤ 1000) :
    Calls Tryz.prog 156 #[v] w (WholePost w r) := by
  obtain ⟨i0, hi, hz0, hz1, hz2⟩ := info_parts info5
  have HI := Lib.hid hi
  have hown := World.ownsRow_made (base := w.heap.size) (e := 5) (size := 1) w #[] 0 (Nat.le_refl _) (Nat.zero_le _) rfl
  have HO := Lib.hid hown
  have H := Lib.hid h
  clear hi hown h
  go_enter Tryz.func156, Tryz.ntmps156
  go_wp2_with (focus (at_builtin; go_must (refine wpList_append_slx _ rfl _ _ 43 207 rfl w.heap.size 5 5 i0 (.int .u8 0) 1 Tryz.underlying43 Tryz.underlying207 HI.out hz0 hz1 hz2 (by rfl) _ 0 [] rfl HO.out _ (ipv r) rfl (H.out.keep ((Below.refl _ _).alloc (Nat.le_refl _) _)) (ipv_one _) (by rw [ipv_length]; unfold maxLen; omega) (by rw [ipv_length]; omega) (by simp) ?_)))
  intro v' w' hown' hg hb'
  go_wp2_with fail
  go_ret
  refine ⟨v', rfl, SlAt.of_owns hown', ?_⟩
  refine ((Below.refl _ _).alloc (Nat.le_refl _) _).grown hg (by simp) fun b hb => ?_
  cases hb
  exact Nat.le_refl _

theorem make_zeros (n : Nat) (w : World) (hn : n ≤ 1000) :
    ∃ w', (Instr.makeSlice 43 (.int .i64 (n : Int)) (.int .i64 (n : Int))).run Tryz.prog w = .ok (.slice (some ⟨w.heap.size, 0, none⟩) n n) w' ∧
      w'.ownsRow w.heap.size 5 1 (.slice (some ⟨w.heap.size, 0, none⟩) n n) n (ipv (List.replicate n 0)) ∧ Below w.heap.size w w' := by
  obtain ⟨i0, hi, hz0, hz1, hz2⟩ := info_parts info5
  obtain ⟨w', h1, h2, h3⟩ := run_makeSlice_full (P := Tryz.prog) (w := w) w.heap.size 43 5 i0 (.int .u8 0) 1 Tryz.underlying43 hi hz0 hz1 .i64 .i64 n (by omega) (by rw [hz2]; omega) (by unfold maxLen; omega) (Nat.le_refl _)
  refine ⟨w', h1, ?_, ⟨h3.os, h3.tape, h3.output, h3.size, fun k hk => h3.block k hk (by simp)⟩⟩
  rw [Nat.mul_one, show (Value.int .u8 0).cells = #[.int .u8 0] from rfl, toList_madeCells_one] at h2
  have e : ipv (List.replicate n 0) = List.replicate n (.int .u8 0) := by simp [ipv, u8v]
  rw [e]
  exact h2

theorem intToIP_any (v : Value) (bs : List UInt8) (six : Bool) (w : World) (h : SlAt w v (ipv (strip bs))) (hw : bs.length = 4 ∧ six = false ∨ bs.length = 16 ∧ (strip bs).length = 16) :
    Calls Tryz.prog 123 #[v, .bool six] w (IPPost w bs) := by
  have hsl := strip_length bs
  have HPAD := Lib.hid (strip_pad bs)
  have HY := Lib.hid (fun w h => bytes_any v (strip bs) w h (by omega))
  have H := Lib.hid h
  obtain ⟨r, hr⟩ : ∃ r, r = strip bs := ⟨_, rfl⟩
  rw [← hr] at hsl HPAD HY H hw
  obtain ⟨n, hn⟩ : ∃ n, n = r.length := ⟨_, rfl⟩
  rw [← hn] at hsl HPAD hw
  have HN := Lib.hid hn
  clear h hr hn
  by_cases hfull : n = bs.length
  · have t1 : ((n : Int) == 4) = true ∨ ((n : Int) == 4) = false ∧ ((n : Int) == 16) = true := by
      rcases hw with ⟨h1, _⟩ | ⟨h1, _⟩
      · left; rw [beq_iff_eq]; omega
      · right; exact ⟨by rw [beq_eq_false_iff_ne]; omega, by rw [beq_iff_eq]; omega⟩
    have HF := Lib.hid hfull
    have hpos : 0 < n := by omega
    have hn16 : n ≤ 16 := by omega
    clear hw hfull
    have HE := Lib.hid (show r = bs by have := HPAD.out; rw [← HF.out, Nat.sub_self] at this; exact this)
    rcases t1 with t1 | ⟨t1, t2⟩
    all_goals
      go_enter Tryz.func123, Tryz.ntmps123
      go_wp2_with fail
      refine (HY.out _ H.out).mono ?_
      rintro e w1 ⟨v1, rfl, hs1, hb1⟩
      have HS1 := Lib.hid hs1
      have HB1 := Lib.hid hb1
      obtain ⟨ao, cap, rfl, _⟩ := hs1.len
      rw [ipv_length, ← HN.out]
      rw [ipv_length, ← HN.out] at HS1
      clear hs1 hb1
      go_wp2_with fail
      go_ret
      exact ⟨_, rfl, ⟨by rw [← HE.out]; exact HS1.out, by rw [← HF.out]; exact hpos⟩, HB1.out⟩
  · obtain ⟨hb4, rfl⟩ : bs.length = 4 ∧ six = false := by
      rcases hw with h1 | h1
      · exact h1
      · omega
    have hn4 : n < 4 := by omega
    have t1 : ((n : Int) == 4) = false := by rw [beq_eq_false_iff_ne]; omega
    have t2 : ((n : Int) == 16) = false := by rw [beq_eq_false_iff_ne]; omega
    obtain ⟨k, hk⟩ : ∃ k : Nat, k + n = 4 := ⟨4 - n, by omega⟩
    have e4 : (4 : Int) - n = k := by omega
    have hk4 : k ≤ 4 := by omega
    have HB4 := Lib.hid hb4
    have HK := Lib.hid hk
    obtain ⟨i0, hi, hz0, hz1, hz2⟩ := info_parts info5
    have HI := Lib.hid hi
    clear hw hfull hb4 hk hi
    go_enter Tryz.func123, Tryz.ntmps123
    go_wp2_with fail
    refine (HY.out _ H.out).mono ?_
    rintro e w1 ⟨v1, rfl, hs1, hb1⟩
    have HB1 := Lib.hid hb1
    obtain ⟨w2, hmk, hown, hb2⟩ := make_zeros k w1 (by omega)
    have HS2 := Lib.hid (hs1.keep hb2)
    have HO := Lib.hid hown
    have HB2 := Lib.hid hb2
    obtain ⟨ao, cap, rfl, _⟩ := hs1.len
    rw [ipv_length, ← HN.out] at HS2 ⊢
    clear hs1 hb1 hown hb2
    go_wp2_with (focus (at_builtin; go_must (refine wpList_append_slx _ rfl _ _ 43 43 rfl w1.heap.size 5 5 i0 (.int .u8 0) 1 Tryz.underlying43 Tryz.underlying43 HI.out hz0 hz1 hz2 (by rfl) _ k (ipv (List.replicate k 0)) rfl HO.out _ (ipv r) rfl HS2.out (ipv_one _) (by rw [ipv_length, ← HN.out]; unfold maxLen; omega) (by rw [ipv_length, ← HN.out]; omega) HB2.out.size ?_)))
    intro v3 w3 hown3 hg3 hblk3
    have HO3 := Lib.hid (show SlAt w3 v3 (ipv bs) by
      have h1 := SlAt.of_owns hown3
      have h2 := HPAD.out
      rw [show bs.length - n = k by have := HB4.out; have := HK.out; omega] at h2
      rw [← h2]
      simpa [ipv] using h1)
    have HB3 := Lib.hid (show Below w.heap.size w w3 from below_tr HB1.out (HB2.out.grown hg3 HB2.out.size (fun b hb => by cases hb; exact Nat.le_refl _)))
    clear hown3 hg3 hblk3 hmk
    go_wp2_with fail
    go_ret
    exact ⟨_, rfl, ⟨HO3.out, by rw [HB4.out]; omega⟩, HB3.out⟩

def Ad.up (a : Ad) : Ad := ⟨a.six, a.n + 1⟩
def Ad.down (a : Ad) : Ad := ⟨a.six, a.n - 1⟩

theorem NextIP_any (v : Value) (a : Ad) (w : World) (h : AdAt w v a) (ok : a.ok)  (ok' : a.up.ok) :
    Calls Tryz.prog 83 #[v] w (IPPost w a.up.brief) := by
  have hnil := fun w a n c => Lib.run_eql_slice_nil (P := Tryz.prog) w 67 5 a n c 0 0 Tryz.underlying67
  have H1 := Lib.hid (normalize_any v a w h)
  have hlen := strip_brief_le a
  have hval : val a.brief + 1 = val a.up.brief := by
    rw [val_brief a ok, val_brief a.up ok']
    show (if a.six then base6 + a.n else a.n) + 1 = if a.six then base6 + (a.n + 1) else a.n + 1
    split <;> omega
  have HV := Lib.hid hval
  have HW := Lib.hid (show a.up.brief.length = 4 ∧ a.six = false ∨ a.up.brief.length = 16 ∧ (strip a.up.brief).length = 16 by
    have hs : a.up.six = a.six := rfl
    cases h6 : a.six with
    | false => left; exact ⟨by rw [Ad.brief_length]; unfold Ad.width; rw [hs, h6]; rfl, rfl⟩
    | true =>
      right
      refine ⟨by rw [Ad.brief_length]; unfold Ad.width; rw [hs, h6]; rfl, ?_⟩
      unfold Ad.brief
      rw [hs, h6]
      rfl)
  have HI := Lib.hid (fun (v : Value) (w : World) h => intToIP_any v a.up.brief a.six w h HW.out)
  obtain ⟨n, hn⟩ : ∃ n, n = a.width := ⟨_, rfl⟩
  have t6 : ((n : Int) == 16) = a.six := by
    rw [hn]
    unfold Ad.width
    cases a.six <;> rfl
  have HN := Lib.hid hn
  clear h ok ok' hn hlen hval
  go_enter Tryz.func83, Tryz.ntmps83
  go_wp2_with fail
  refine H1.out.mono ?_
  rintro e w1 ⟨v1, rfl, hv1, rfl⟩
  have ho := BriefAt.out hv1
  rw [← HN.out] at ho
  obtain ⟨b, off, cap, rfl, _⟩ := ho
  have HV1 := Lib.hid hv1
  clear hv1
  go_wp2_with fail
  refine (ipToInt_any _ a _ HV1.out).mono ?_
  rintro e w2 ⟨v2, rfl, hs2, hb2⟩
  have HS2 := Lib.hid hs2
  have HB2 := Lib.hid hb2
  clear hs2 hb2
  go_wp2_with fail
  refine (add_up v2 (strip a.brief) _ HS2.out (by have := strip_length a.brief; rw [Ad.brief_length] at this; have := (width_cases a).2; omega)).mono ?_
  rintro e w3 ⟨v3, r, rfl, hs3, hr, hvr, hb3⟩
  have hre : r = strip a.up.brief := by
    rw [← hr]
    refine strip_unique ?_
    rw [hvr, val_strip]
    exact HV.out
  subst hre
  have HS3 := Lib.hid hs3
  have HB3 := Lib.hid (below_tr HB2.out hb3)
  clear hs3 hr hvr hb3
  go_wp2_with fail
  refine (HI.out _ _ HS3.out).mono ?_
  rintro e w4 ⟨v4, rfl, hv4, hb4⟩
  have HV4 := Lib.hid hv4
  have HB4 := Lib.hid (below_tr HB3.out hb4)
  clear hv4 hb4
  go_wp2_with fail
  go_ret
  exact ⟨_, rfl, HV4.out, HB4.out⟩


end Go.Proofs.YtnehofekgnbelaaGreatDoor

/-
  net.CIDRMask.
-/
namespace Go.Proofs.YtnehofekgnbelaaGreatDoor
open Go.RowKit
set_option linter.unusedVariables false
set_option maxRecDepth 100000
set_option maxHeartbeats 1000000

theorem make_zeros_at (t : TypeId) (ht : Tryz.prog.underlying t = some (.slice 5)) (n : Nat) (w : World) (hn : n ≤ 1000) :
    ∃ w', (Instr.makeSlice t (.int .i64 (n : Int)) (.int .i64 (n : Int))).run Tryz.prog w = .ok (.slice (some ⟨w.heap.size, 0, none⟩) n n) w' ∧
      RowAt w' w.heap.size (List.replicate n 0) ∧ Below w.heap.size w w' ∧ w.heap.size < w'.heap.size := by
  obtain ⟨i0, hi, hz0, hz1, hz2⟩ := info_parts info5
  obtain ⟨w', h1, h2, h3⟩ := run_makeSlice_full (P := Tryz.prog) (w := w) w.heap.size t 5 i0 (.int .u8 0) 1 ht hi hz0 hz1 .i64 .i64 n (by omega) (by rw [hz2]; omega) (by unfold maxLen; omega) (Nat.le_refl _)
  rw [Nat.mul_one, show (Value.int .u8 0).cells = #[.int .u8 0] from rfl, toList_madeCells_one] at h2
  have e : ipv (List.replicate n 0) = List.replicate n (.int .u8 0) := by simp [ipv, u8v]
  rw [← e] at h2
  have h4 := RowAt.of_owns h2
  exact ⟨w', h1, h4.1, ⟨h3.os, h3.tape, h3.output, h3.size, fun k hk => h3.block k hk (by simp)⟩, (World.ownsRow.lt h2 w.heap.size rfl).2⟩

/-- What is filled so far, noughts behind. -/
def fill (l : List UInt8) (i : Nat) : List UInt8 := l.take i ++ List.replicate (l.length - i) 0
theorem fill_zero (l : List UInt8) : fill l 0 = List.replicate l.length 0 := by simp [fill]
theorem fill_all (l : List UInt8) : fill l l.length = l := by simp [fill]
theorem fill_length (l : List UInt8) (i : Nat) (hi : i ≤ l.length) : (fill l i).length = l.length := by
  unfold fill
  rw [List.length_append, List.length_take, List.length_replicate]
  omega
theorem fill_next (l : List UInt8) (i : Nat) (hi : i < l.length) : (fill l i).set i (l.getD i 0) = fill l (i + 1) := by
  unfold fill
  have e : (l.take i).length = i := by rw [List.length_take]; omega
  have h := set_mid (l.take i) (List.replicate (l.length - (i + 1)) 0) 0 (l.getD i 0)
  rw [e] at h
  rw [show l.length - i = l.length - (i + 1) + 1 by omega, List.replicate_succ, h, take_mid l i hi, List.append_assoc, List.singleton_append]

def FillRel (w : World) (g : Nat) (l : List UInt8) (i : Nat) (wr : World) : Prop := AddRel w g (fill l i) wr
theorem FillRel.next {w wr : World} {g : Nat} {l : List UInt8} {i : Nat} (h : FillRel w g l i wr) (hg : w.heap.size ≤ g) (hi : i < l.length) (x : UInt8) (hx : l.getD i 0 = x) : FillRel w g l (i + 1) (wr.setCell ⟨g, i, none⟩ (.int .u8 x.toNat)) := by
  have := AddRel.store h hg i x
  rw [← hx, fill_next l i hi] at this
  rw [← hx]
  exact this
theorem FillRel.done {w wr : World} {g : Nat} {l : List UInt8} {cap : Nat} (h : FillRel w g l l.length wr) (h0 : 0 < l.length) (hl : l.length ≤ cap) (hm : cap ≤ maxLen) : IPAt wr (.slice (some ⟨g, 0, none⟩) l.length cap) l ∧ Below w.heap.size w wr := by
  unfold FillRel at h
  rw [fill_all] at h
  exact ⟨⟨h.1.sl hl hm, h0⟩, h.2⟩

theorem cidr_any (l k : Nat) (w : World) (hl : l = 4 ∨ l = 16) (hk : k ≤ 8 * l) :
    Calls Tryz.prog 153 #[.int .i64 k, .int .i64 ((8 * l : Nat) : Int)] w (IPPost w (maskL l k)) := by
  have HM := Lib.hid (fun i (h : i < l) => maskL_getD l k i h)
  have HL := Lib.hid (maskL_length l k)
  obtain ⟨w1, hmk, hrow, hb1, hlt1⟩ := make_zeros_at 68 Tryz.underlying68 l w (by omega)
  have HR := Lib.hid (show FillRel w w.heap.size (maskL l k) 0 w1 from ⟨by rw [fill_zero, HL.out]; exact hrow, hb1⟩)
  generalize maskL l k = m at HM HL HR ⊢
  have HK := Lib.hid hmk
  clear hrow hb1 hmk
  rcases hl with rfl | rfl
  · have hmk : (Instr.makeSlice 68 (.int .i64 4) (.int .i64 4)).run Tryz.prog w = .ok (.slice (some ⟨w.heap.size, 0, none⟩) 4 4) w1 := HK.out
    clear HK
    go_enter Tryz.func153, Tryz.ntmps153
    go_wp2_with fail
    go_loopw [7, 8] (fun q i wr => ∃ j r : Nat, j ≤ 4 ∧ i = .int .i64 j ∧ q = .int .u64 r ∧ r ≤ 32 ∧ Hid (r = k - 8 * j ∧ FillRel w w.heap.size m j wr)) (fun _ i _ => 4 - (intOf i).toNat)
    case atStart => exact ⟨0, k, by omega, rfl, rfl, by omega, by omega, HR.out⟩
    case round =>
      obtain ⟨j, r, hj, rfl, rfl, hr8, hr⟩ := hrel
      by_cases hlt : j < 4
      · have cj := hr.out.2.1.cell j (by rw [fill_length _ _ (by rw [HL.out]; omega), HL.out]; exact hlt)
        have zj := hr.out.2.1.free j
        have HX := Lib.hid (HM.out j hlt)
        by_cases h8 : 8 ≤ r
        · have HN := Lib.hid (hr.out.2.next (Nat.le_refl _) (by rw [HL.out]; exact hlt) 255 (by rw [HX.out, ← hr.out.1, mb_full _ h8]))
          go_wp2_with fail
          go_roundw
          case rel => exact ⟨j + 1, r - 8, by omega, by go_num, by go_num, by omega, by have := hr.out.1; omega, HN.out⟩
          case measure => simp [intOf]; omega
        · have h08 : r = 0 ∨ r = 1 ∨ r = 2 ∨ r = 3 ∨ r = 4 ∨ r = 5 ∨ r = 6 ∨ r = 7 := by omega
          have HN := Lib.hid (hr.out.2.next (Nat.le_refl _) (by rw [HL.out]; exact hlt) (mb r) (by rw [HX.out, ← hr.out.1]))
          have HZ := Lib.hid (show 0 = k - 8 * (j + 1) by have := hr.out.1; omega)
          clear h8
          rcases h08 with rfl | rfl | rfl | rfl | rfl | rfl | rfl | rfl
          all_goals
            go_wp2_with fail
            go_roundw
            case rel => exact ⟨j + 1, 0, by omega, by go_num, rfl, by omega, HZ.out, HN.out⟩
            case measure => simp [intOf]; omega
      · obtain rfl : j = 4 := by omega
        have HD := Lib.hid (FillRel.done (cap := 4) (l := m) (w := w) (g := w.heap.size) (by rw [HL.out]; exact hr.out.2) (by rw [HL.out]; omega) (by rw [HL.out]; omega) (by unfold maxLen; omega))
        rw [HL.out] at HD
        go_wp2_with fail
        go_ret
        exact ⟨_, rfl, HD.out.1, HD.out.2⟩
  · have hmk : (Instr.makeSlice 68 (.int .i64 16) (.int .i64 16)).run Tryz.prog w = .ok (.slice (some ⟨w.heap.size, 0, none⟩) 16 16) w1 := HK.out
    clear HK
    go_enter Tryz.func153, Tryz.ntmps153
    go_wp2_with fail
    go_loopw [7, 8] (fun q i wr => ∃ j r : Nat, j ≤ 16 ∧ i = .int .i64 j ∧ q = .int .u64 r ∧ r ≤ 128 ∧ Hid (r = k - 8 * j ∧ FillRel w w.heap.size m j wr)) (fun _ i _ => 16 - (intOf i).toNat)
    case atStart => exact ⟨0, k, by omega, rfl, rfl, by omega, by omega, HR.out⟩
    case round =>
      obtain ⟨j, r, hj, rfl, rfl, hr8, hr⟩ := hrel
      by_cases hlt : j < 16
      · have cj := hr.out.2.1.cell j (by rw [fill_length _ _ (by rw [HL.out]; omega), HL.out]; exact hlt)
        have zj := hr.out.2.1.free j
        have HX := Lib.hid (HM.out j hlt)
        by_cases h8 : 8 ≤ r
        · have HN := Lib.hid (hr.out.2.next (Nat.le_refl _) (by rw [HL.out]; exact hlt) 255 (by rw [HX.out, ← hr.out.1, mb_full _ h8]))
          go_wp2_with fail
          go_roundw
          case rel => exact ⟨j + 1, r - 8, by omega, by go_num, by go_num, by omega, by have := hr.out.1; omega, HN.out⟩
          case measure => simp [intOf]; omega
        · have h08 : r = 0 ∨ r = 1 ∨ r = 2 ∨ r = 3 ∨ r = 4 ∨ r = 5 ∨ r = 6 ∨ r = 7 := by omega
          have HN := Lib.hid (hr.out.2.next (Nat.le_refl _) (by rw [HL.out]; exact hlt) (mb r) (by rw [HX.out, ← hr.out.1]))
          have HZ := Lib.hid (show 0 = k - 8 * (j + 1) by have := hr.out.1; omega)
          clear h8
          rcases h08 with rfl | rfl | rfl | rfl | rfl | rfl | rfl | rfl
          all_goals
            go_wp2_with fail
            go_roundw
            case rel => exact ⟨j + 1, 0, by omega, by go_num, rfl, by omega, HZ.out, HN.out⟩
            case measure => simp [intOf]; omega
      · obtain rfl : j = 16 := by omega
        have HD := Lib.hid (FillRel.done (cap := 16) (l := m) (w := w) (g := w.heap.size) (by rw [HL.out]; exact hr.out.2) (by rw [HL.out]; omega) (by rw [HL.out]; omega) (by unfold maxLen; omega))
        rw [HL.out] at HD
        go_wp2_with fail
        go_ret
        exact ⟨_, rfl, HD.out.1, HD.out.2⟩

end Go.Proofs.YtnehofekgnbelaaGreatDoor

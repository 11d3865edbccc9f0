/-
  Texts put together: P6, Add.
-/
import Derived.Test.YtnehofekgnbelaaGreatDoorM9
import Derived.Laws.Bits64b
import Derived.Lib.SliceRun
import Derived.BigFrame
import Derived.Test.YtnehofekgnbelaaGreatDoorM2

/-
  netip.parseIPv6 on 2001:db8:: and at most four digits.
-/
namespace Go.Proofs.YtnehofekgnbelaaGreatDoor
open Go.RowKit
set_option linter.unusedVariables false
set_option maxRecDepth 100000
set_option maxHeartbeats 1000000

theorem int_eq {k : IntKind} {a b : Int} (h : a = b) : Value.int k a = Value.int k b := by rw [h]

theorem hex_mem (n : Nat) : ∀ b ∈ hexL n, ∃ d, d < 16 ∧ b = hexDig d := by
  induction n using Nat.strongRecOn with
  | _ n ih =>
    intro b hb
    by_cases h0 : 0 < n
    · rw [hexL_of h0, List.mem_append, List.mem_singleton] at hb
      rcases hb with hb | rfl
      · exact ih (n / 16) (by omega) b hb
      · exact ⟨n % 16, by omega, rfl⟩
    · obtain rfl : n = 0 := by omega
      rw [hexL_zero] at hb; cases hb
theorem no_percent (n : Nat) : ∀ b ∈ preL ++ hexL n, b ≠ 37 := by
  intro b hb
  rw [List.mem_append] at hb
  rcases hb with hb | hb
  · revert b; decide
  · obtain ⟨d, hd, rfl⟩ := hex_mem n b hb
    have : ∀ d : Fin 16, hexDig d.val ≠ 37 := by decide
    exact this ⟨d, hd⟩

/-- A number's digits in sixteens, and the number of digits. -/
def digL (n : Nat) : List Nat := if 0 < n then digL (n / 16) ++ [n % 16] else []
termination_by n
decreasing_by omega
def hv (g : List Nat) : Nat := g.foldl (fun a d => a * 16 + d) 0
theorem digL_of {n : Nat} (h : 0 < n) : digL n = digL (n / 16) ++ [n % 16] := by rw [digL, if_pos h]
theorem digL_zero : digL 0 = [] := by rw [digL, if_neg (by omega)]
theorem hv_snoc (g : List Nat) (d : Nat) : hv (g ++ [d]) = hv g * 16 + d := by simp [hv, List.foldl_append]
theorem digL_all (n : Nat) : hexL n = (digL n).map hexDig ∧ (∀ d ∈ digL n, d < 16) ∧ hv (digL n) = n := by
  induction n using Nat.strongRecOn with
  | _ n ih =>
    by_cases h0 : 0 < n
    · obtain ⟨h1, h2, h3⟩ := ih (n / 16) (by omega)
      rw [hexL_of h0, digL_of h0, hv_snoc, h1, h3]
      refine ⟨by simp, fun d hd => ?_, by omega⟩
      rw [List.mem_append, List.mem_singleton] at hd
      rcases hd with hd | rfl
      · exact h2 d hd
      · omega
    · obtain rfl : n = 0 := by omega
      rw [hexL_zero, digL_zero]
      exact ⟨rfl, (fun d hd => by cases hd), rfl⟩
theorem hv_from (g : List Nat) : ∀ a, (∀ d ∈ g, d < 16) → g.foldl (fun a d => a * 16 + d) a + 1 ≤ (a + 1) * 16 ^ g.length := by
  induction g with
  | nil => intro a _; simp
  | cons d g ih =>
    intro a h
    have h1 := ih (a * 16 + d) fun x hx => h x (by simp [hx])
    have h2 := h d (by simp)
    have h3 : (a * 16 + d + 1) * 16 ^ g.length ≤ ((a + 1) * 16) * 16 ^ g.length := Nat.mul_le_mul_right _ (by omega)
    rw [List.foldl_cons, List.length_cons, Nat.pow_succ, Nat.mul_comm (16 ^ g.length), ← Nat.mul_assoc]
    omega
theorem hv_lt (g : List Nat) (h : ∀ d ∈ g, d < 16) : hv g < 16 ^ g.length := by
  have := hv_from g 0 h
  simp only [Nat.zero_add, Nat.one_mul] at this
  exact this

/-- The text is a group of digits and a rest behind a colon, or nothing. -/
structure Grp (y : ByteArray) (g : List Nat) (rest : List UInt8) : Prop where
  eq : bl y = g.map hexDig ++ rest
  lt : ∀ d ∈ g, d < 16
  pos : 0 < g.length
  le : g.length ≤ 4
  next : rest = [] ∨ ∃ r, rest = 58 :: r

theorem Grp.size {y : ByteArray} {g : List Nat} {rest : List UInt8} (h : Grp y g rest) : y.size = g.length + rest.length := by
  rw [← bl_length, h.eq, List.length_append, List.length_map]
theorem Grp.at {y : ByteArray} {g : List Nat} {rest : List UInt8} (h : Grp y g rest) (k : Nat) (hk : k < g.length) (hy : k < y.size) : y[k] = hexDig (g.getD k 0) ∧ g.getD k 0 < 16 := by
  have e : g.getD k 0 = g[k] := by rw [List.getD_eq_getElem?_getD, List.getElem?_eq_getElem hk]; rfl
  refine ⟨?_, by rw [e]; exact h.lt _ (List.getElem_mem hk)⟩
  rw [← bl_getD y k hy, h.eq, e, List.getD_eq_getElem?_getD, List.getElem?_append_left (by simpa using hk)]
  simp [hk]
theorem hv_take (g : List Nat) (k : Nat) (hk : k < g.length) : hv (g.take (k + 1)) = hv (g.take k) * 16 + g.getD k 0 := by
  rw [List.take_succ_eq_append_getElem hk, hv_snoc, List.getD_eq_getElem?_getD, List.getElem?_eq_getElem hk]
  rfl
theorem Grp.part {y : ByteArray} {g : List Nat} {rest : List UInt8} (h : Grp y g rest) (k : Nat) (hk : k ≤ g.length) : hv (g.take k) < 16 ^ k := by
  have := hv_lt (g.take k) fun d hd => h.lt d (List.mem_of_mem_take hd)
  rwa [List.length_take, Nat.min_eq_left hk] at this
theorem hexDig_low {d : Nat} (h : d < 10) : (hexDig d).toNat = 48 + d := by
  have : ∀ d : Fin 10, (hexDig d.val).toNat = 48 + d.val := by decide
  exact this ⟨d, h⟩
theorem hexDig_high {d : Nat} (h : d < 16) (h2 : ¬ d < 10) : (hexDig d).toNat = 87 + d := by
  have : ∀ d : Fin 16, ¬ d.val < 10 → (hexDig d.val).toNat = 87 + d.val := by decide
  exact this ⟨d, h⟩ h2

theorem bl_from (s : ByteArray) (k e : Nat) (he : s.size ≤ e) : bl (s.extract k e) = (bl s).drop k := by
  rw [bl_extract, List.take_of_length_le (by rw [List.length_drop, bl_length]; omega)]
theorem at_from {s : ByteArray} {l : List UInt8} {x : UInt8} (h : bl s = x :: l) (h0 : 0 < s.size) : (s[0].toNat : Int) = x.toNat := by
  rw [← bl_getD s 0 h0, h]
  rfl

/-- The world within parseIPv6: the result's block, the sixteen bytes. -/
structure SixB (w : World) (cs : Array Value) (wr : World) : Prop where
  res : wr.heap[w.heap.size]? = some (.cells nz5 160 (0, 0))
  row : wr.heap[w.heap.size + 1]? = some (.cells cs 171 (0, 0))
  below : Below w.heap.size w wr
theorem SixB.store {w wr : World} {cs : Array Value} (h : SixB w cs wr) (k : Nat) (v : Value) : SixB w (cs.setIfInBounds k v) (wr.setCell ⟨w.heap.size + 1, k, none⟩ v) := by
  refine ⟨?_, ?_, h.below.setCell (by simp) _⟩
  · rw [Below.heap_setCell _ _ _ _ (by simp)]; exact h.res
  · exact heap_setCell_same wr (w.heap.size + 1) k _ _ _ h.row

def putL (cs : Array Value) : Nat → List Value → Array Value
  | _, [] => cs
  | o, v :: vs => putL (cs.setIfInBounds o v) (o + 1) vs
theorem SixB.stores {w : World} : ∀ (vs : List Value) (o : Nat) (cs : Array Value) (wr : World), SixB w cs wr → SixB w (putL cs o vs) (wr.setCells (w.heap.size + 1) o vs)
  | [], _, _, _, h => h
  | v :: vs, o, cs, wr, h => SixB.stores vs (o + 1) _ _ (h.store o v)
theorem zeroU8 (w : World) : (zeroValue 5).run Tryz.prog w = .ok (.int .u8 0) w := by kernel_rfl
theorem six_clear {w wr : World} {cs cs' : Array Value} (h : SixB w cs wr) (o n c : Nat) (hn : 0 < n) (hs : o + n ≤ cs.size) (he : putL cs o (List.replicate n (.int .u8 0)) = cs') :
    ∃ W2, (∀ ty, (Builtin.clear_ #[43] ty #[.slice (some ⟨w.heap.size + 1, o, none⟩) n c]).run Tryz.prog wr = .ok (.tuple #[]) W2) ∧ SixB w cs' W2 := by
  refine ⟨_, fun ty => Lib.run_clear_slice wr _ _ ty _ Tryz.underlying43 zeroU8 rfl rfl _ o n c hn (fun j hj => ?_) (fun j _ => frozen_of_row wr _ _ _ _ h.row), he ▸ h.stores _ o⟩
  rw [cell_of_row wr _ (o + j) _ _ _ h.row, Array.getElem?_eq_getElem (by omega)]
  rfl

def csA : Array Value := z16
def csB : Array Value := (z16.setIfInBounds 0 (.int .u8 32)).setIfInBounds 1 (.int .u8 1)
def csC : Array Value := (csB.setIfInBounds 2 (.int .u8 13)).setIfInBounds 3 (.int .u8 184)
/-- How far the text is read. -/
def Six3 (n : Nat) (g : List Nat) (rest : List UInt8) (i : Nat) (ell : Int) (cs : Array Value) : Prop :=
  (g = [2, 0, 0, 1] ∧ rest = 58 :: 100 :: 98 :: 56 :: 58 :: 58 :: hexL n ∧ i = 0 ∧ ell = -1 ∧ cs = csA) ∨
  (g = [13, 11, 8] ∧ rest = 58 :: 58 :: hexL n ∧ i = 2 ∧ ell = -1 ∧ cs = csB) ∨
  (g = digL n ∧ rest = [] ∧ i = 4 ∧ ell = 4 ∧ cs = csC)

theorem parseIPv6_any (s : ByteArray) (n : Nat) (w : World) (hs : bl s = preL ++ hexL n) (hl : (hexL n).length ≤ 4) :
    Calls Tryz.prog 171 #[.string s] w (ParsedPost w (naddr 2306139568115548160 n true)) := by
  have hsz : s.size ≤ 14 := by
    rw [← bl_length, hs, List.length_append, show preL.length = 10 from rfl]
    omega
  have hsz2 : 10 ≤ s.size := by
    rw [← bl_length, hs, List.length_append, show preL.length = 10 from rfl]
    omega
  have HI := Lib.hid (fun w => index_none s 37 w (by omega) (by rw [hs]; exact no_percent n))
  have hg : ∀ k, (h : k < s.size) → s[k] = (preL ++ hexL n).getD k 0 := fun k h => by rw [← bl_getD s k h, hs]
  have h0 : s[0] = 50 := hg 0 (by omega)
  have t0 : ((s[0].toNat : Int) == 58) = false := by rw [h0]; rfl
  have hst : Grp s [2, 0, 0, 1] (58 :: 100 :: 98 :: 56 :: 58 :: 58 :: hexL n) :=
    ⟨by rw [hs]; rfl, by decide, by decide, by decide, .inr ⟨_, rfl⟩⟩
  have HST := Lib.hid hst
  have HL := Lib.hid hl
  clear hs hg h0 hst hl
  go_enter Tryz.func171, Tryz.ntmps171
  go_wp2_with fail
  refine (HI.out _).mono ?_
  rintro e w2 ⟨rfl, rfl⟩
  go_wp2_with fail
  go_loopw [4, 6, 8] (fun x i e wr => ∃ (y : ByteArray) (k : Nat) (l : Int) (g : List Nat) (rest : List UInt8) (cs : Array Value), x = .string y ∧ i = .int .i64 k ∧ e = .int .i64 l ∧ y.size ≤ 14 ∧ k < 16 ∧ Hid (Grp y g rest ∧ Six3 n g rest k l cs ∧ SixB w cs wr)) (fun _ i _ _ => 16 - (intOf i).toNat)
  case atStart => exact ⟨s, 0, -1, _, _, z16, rfl, rfl, rfl, hsz, by omega, HST.out, .inl ⟨rfl, rfl, rfl, rfl, rfl⟩, (two_kept' (Below.refl _ _)).1, (two_kept' (Below.refl _ _)).2.1, (two_kept' (Below.refl _ _)).2.2⟩
  case round =>
    obtain ⟨y, i, l, g, rest, cs, rfl, rfl, rfl, hy14, hi16, hr⟩ := hrel
    obtain ⟨m, hm⟩ : ∃ m, m = g.length := ⟨_, rfl⟩
    have hm1 : 1 ≤ m := by rw [hm]; exact hr.out.1.pos
    have hm4 : m ≤ 4 := by rw [hm]; exact hr.out.1.le
    have hmy : m ≤ y.size := by rw [hm, hr.out.1.size]; omega
    have HM := Lib.hid hm
    clear hm
    have ti : decide ((i : Int) < 16) = true := decide_eq_true (by omega)
    go_wp2_with fail
    clear ti
    obtain ⟨wo, hwo⟩ : ∃ wo : World, wo = wr := ⟨_, rfl⟩
    subst hwo
    go_loop [9, 10] (fun o a => ∃ (k v : Nat), k ≤ m ∧ o = .int .i64 k ∧ a = .int .u32 v ∧ v < 65536 ∧ Hid (v = hv (g.take k))) (fun o _ => m - (intOf o).toNat)
    case atStart => exact ⟨0, 0, by omega, rfl, rfl, by omega, rfl⟩
    case round =>
      obtain ⟨k, v, hk, rfl, rfl, hv6, hv⟩ := hrel
      by_cases hlt : k < m
      · have hky : k < y.size := by omega
        obtain ⟨ha, hd⟩ := hr.out.1.at k (by rw [← HM.out]; exact hlt) hky
        have htk := hv_take g k (by rw [← HM.out]; exact hlt)
        have hpt := hr.out.1.part k (by rw [← HM.out]; omega)
        have hpt1 := hr.out.1.part (k + 1) (by rw [← HM.out]; omega)
        rw [← hv.out] at htk hpt
        rw [htk] at hpt1
        generalize g.getD k 0 = d at ha hd htk hpt1
        have h4k : 16 ^ (k + 1) ≤ 65536 := Nat.pow_le_pow_right (n := 16) (by decide) (show k + 1 ≤ 4 by omega)
        have h3k : 16 ^ k ≤ 4096 := Nat.pow_le_pow_right (n := 16) (by decide) (show k ≤ 3 by omega)
        have hv3 : v < 4096 := by omega
        have hk3 : k ≤ 3 := by omega
        obtain ⟨v', hv'⟩ : ∃ v', v' = v * 16 + d := ⟨_, rfl⟩
        have hv6' : v' < 65536 := by omega
        have HT := Lib.hid (hv'.trans htk.symm)
        by_cases h10 : d < 10
        · have hc := hexDig_low h10
          rw [← ha] at hc
          have q1 : (48 : Int) ≤ (y[k].toNat : Int) := by omega
          have q2 : (y[k].toNat : Int) ≤ 57 := by omega
          have HV := Lib.hid (show (v' : Int) = (v : Int) * 16 + ((y[k].toNat : Int) - 48) by omega)
          clear hv' htk hpt hpt1 h4k h3k ha hd hc h10
          go_wp2_with fail
          go_round
          case rel => exact ⟨k + 1, v', by omega, by go_num, int_eq HV.out.symm, hv6', HT.out⟩
          case measure => simp [intOf]; omega
        · have hc := hexDig_high hd h10
          rw [← ha] at hc
          have q1 : (97 : Int) ≤ (y[k].toNat : Int) := by omega
          have q2 : (y[k].toNat : Int) ≤ 102 := by omega
          have q3 : (48 : Int) ≤ (y[k].toNat : Int) := by omega
          have q4 : decide ((y[k].toNat : Int) ≤ 57) = false := decide_eq_false (by omega)
          have HV := Lib.hid (show (v' : Int) = (v : Int) * 16 + ((y[k].toNat : Int) - 97 + 10) by omega)
          clear hv' htk hpt hpt1 h4k h3k ha hd hc h10
          go_wp2_with fail
          go_round
          case rel => exact ⟨k + 1, v', by omega, by go_num, int_eq HV.out.symm, hv6', HT.out⟩
          case measure => simp [intOf]; omega
      · obtain rfl : k = m := by omega
        have hvm := hv.out
        rw [HM.out, List.take_length] at hvm
        have hgr := hr.out.1
        have hsb := hr.out.2.2
        rcases hr.out.2.1 with ⟨hg, hrest, rfl, rfl, rfl⟩ | ⟨hg, hrest, rfl, rfl, rfl⟩ | ⟨hg, hrest, rfl, rfl, rfl⟩
        · rw [hg, hrest] at hgr
          rw [hg] at hvm
          obtain rfl : v = 8193 := hvm
          obtain rfl : k = 4 := by rw [HM.out, hg]; rfl
          have hsz := hgr.size
          have hsz2 : 10 ≤ y.size := by rw [hsz]; simp; omega
          have HSZ := Lib.hid hsz
          clear hsz
          have hy := hgr.eq
          have hy1 : bl (y.extract 4 y.size) = 58 :: 100 :: 98 :: 56 :: 58 :: 58 :: hexL n := by rw [bl_from _ _ _ (Nat.le_refl _), hy]; rfl
          have hs1 : (y.extract 4 y.size).size = y.size - 4 := by rw [← bl_length, bl_from _ _ _ (Nat.le_refl _), List.length_drop, bl_length]
          have hy2 : bl ((y.extract 4 y.size).extract 1 (y.size - 4)) = 100 :: 98 :: 56 :: 58 :: 58 :: hexL n := by rw [bl_from _ _ _ (by rw [hs1]; exact Nat.le_refl _), hy1]; rfl
          have hs2 : ((y.extract 4 y.size).extract 1 (y.size - 4)).size = y.size - 4 - 1 := by rw [← bl_length, bl_from _ _ _ (by rw [hs1]; exact Nat.le_refl _), List.length_drop, bl_length, hs1]
          have v4 : (y[4].toNat : Int) = 58 := by rw [← bl_getD y 4 (by omega), hy]; rfl
          have v5 : ∀ h, (((y.extract 4 y.size)[0]'h).toNat : Int) = 58 := fun h => at_from hy1 h
          have v6 : ∀ h, ((((y.extract 4 y.size).extract 1 (y.size - 4))[0]'h).toNat : Int) = 100 := fun h => at_from hy2 h
          have hg2 : Grp ((y.extract 4 y.size).extract 1 (y.size - 4)) [13, 11, 8] (58 :: 58 :: hexL n) := ⟨by rw [hy2]; rfl, by decide, by decide, by decide, .inr ⟨_, rfl⟩⟩
          have HG := Lib.hid hg2
          have HS2 := Lib.hid hs2
          have hrow := hsb.row
          have c0 : wo.cell? ⟨w.heap.size + 1, 0, none⟩ = some (.int .u8 0) := cell_of_row wo _ 0 _ _ _ hrow
          have c1 : wo.cell? ⟨w.heap.size + 1, 1, none⟩ = some (.int .u8 0) := cell_of_row wo _ 1 _ _ _ hrow
          have z0 : wo.frozen? ⟨w.heap.size + 1, 0, none⟩ = false := frozen_of_row wo _ 0 _ _ hrow
          have z1 : wo.frozen? ⟨w.heap.size + 1, 1, none⟩ = false := frozen_of_row wo _ 1 _ _ hrow
          have HSB := Lib.hid hsb
          clear hg hrest hgr hy hy1 hy2 hs1 hs2 hg2 hrow hsb hv
          go_wp2_with fail
          go_roundw
          case rel => exact ⟨_, 2, -1, _, _, _, rfl, rfl, rfl, by rw [HS2.out]; omega, by omega, HG.out, .inr (.inl ⟨rfl, rfl, rfl, rfl, rfl⟩), (HSB.out.store 0 _).store 1 _⟩
          case measure => simp [intOf]
        · rw [hg, hrest] at hgr
          rw [hg] at hvm
          obtain rfl : v = 3512 := hvm
          obtain rfl : k = 3 := by rw [HM.out, hg]; rfl
          have hsz := hgr.size
          have hsz3 : y.size = 5 + (hexL n).length := by rw [hsz]; simp; omega
          have hsz2 : 5 ≤ y.size := by omega
          have HSZ := Lib.hid hsz3
          clear hsz hsz3
          have hy := hgr.eq
          have hy1 : bl (y.extract 3 y.size) = 58 :: 58 :: hexL n := by rw [bl_from _ _ _ (Nat.le_refl _), hy]; rfl
          have hs1 : (y.extract 3 y.size).size = y.size - 3 := by rw [← bl_length, bl_from _ _ _ (Nat.le_refl _), List.length_drop, bl_length]
          have hy2 : bl ((y.extract 3 y.size).extract 1 (y.size - 3)) = 58 :: hexL n := by rw [bl_from _ _ _ (by rw [hs1]; exact Nat.le_refl _), hy1]; rfl
          have hs2 : ((y.extract 3 y.size).extract 1 (y.size - 3)).size = y.size - 3 - 1 := by rw [← bl_length, bl_from _ _ _ (by rw [hs1]; exact Nat.le_refl _), List.length_drop, bl_length, hs1]
          have hy3 : bl (((y.extract 3 y.size).extract 1 (y.size - 3)).extract 1 (y.size - 3 - 1)) = hexL n := by rw [bl_from _ _ _ (by rw [hs2]; exact Nat.le_refl _), hy2]; rfl
          have hs3 : (((y.extract 3 y.size).extract 1 (y.size - 3)).extract 1 (y.size - 3 - 1)).size = y.size - 3 - 1 - 1 := by rw [← bl_length, bl_from _ _ _ (by rw [hs2]; exact Nat.le_refl _), List.length_drop, bl_length, hs2]
          have v4 : (y[3].toNat : Int) = 58 := by rw [← bl_getD y 3 (by omega), hy]; rfl
          have v5 : ∀ h, (((y.extract 3 y.size)[0]'h).toNat : Int) = 58 := fun h => at_from hy1 h
          have v6 : ∀ h, ((((y.extract 3 y.size).extract 1 (y.size - 3))[0]'h).toNat : Int) = 58 := fun h => at_from hy2 h
          have HY3 := Lib.hid hy3
          have HS3 := Lib.hid hs3
          have hrow := hsb.row
          have c0 : wo.cell? ⟨w.heap.size + 1, 2, none⟩ = some (.int .u8 0) := cell_of_row wo _ 2 _ _ _ hrow
          have c1 : wo.cell? ⟨w.heap.size + 1, 3, none⟩ = some (.int .u8 0) := cell_of_row wo _ 3 _ _ _ hrow
          have z0 : wo.frozen? ⟨w.heap.size + 1, 2, none⟩ = false := frozen_of_row wo _ 2 _ _ hrow
          have z1 : wo.frozen? ⟨w.heap.size + 1, 3, none⟩ = false := frozen_of_row wo _ 3 _ _ hrow
          have HSB := Lib.hid hsb
          clear hg hrest hgr hy hy1 hy2 hy3 hs1 hs2 hs3 hrow hsb hv
          by_cases hD : 6 ≤ y.size
          · go_wp2_with fail
            go_roundw
            case rel =>
              have hd := digL_all n
              refine ⟨_, 4, 4, digL n, [], csC, rfl, rfl, rfl, by rw [HS3.out]; omega, by omega, ⟨?_, hd.2.1, ?_, ?_, .inl rfl⟩, .inr (.inr ⟨rfl, rfl, rfl, rfl, rfl⟩), (HSB.out.store 2 _).store 3 _⟩
              · rw [HY3.out, hd.1, List.append_nil]
              · have h1 := HSZ.out
                rw [hd.1, List.length_map] at h1
                omega
              · have h1 := HL.out
                rw [hd.1, List.length_map] at h1
                exact h1
            case measure => simp [intOf]
          · go_wp2_with fail
            obtain rfl : n = 0 := by
              have h1 := HSZ.out
              have h2 := hexL_lt n
              have h3 : (hexL n).length = 0 := by omega
              rw [h3] at h2
              omega
            have hsb4 := (HSB.out.store 2 (.int .u8 13)).store 3 (.int .u8 184)
            generalize (wo.setCell _ _).setCell _ _ = W1 at hsb4 ⊢
            obtain ⟨W2, hcl, hs2⟩ := six_clear (cs' := c16 0 0) hsb4 4 12 12 (by omega) (by decide) rfl
            have hrow2 := hs2.row
            unfold c16 at hrow2
            obtain ⟨c0, c1, c2, c3, c4, c5, c6, c7, c8, c9, c10, c11, c12, c13, c14, c15, _⟩ := row16_facts hrow2
            have HS4 := Lib.hid hs2
            clear hsb4 hs2 hrow2
            refine wp_loop_rounds 1 ?_
            rw [rounds_succ]
            go_wp2_with (simp only [hcl])
            refine (addrFrom16_any 0 0 _ (by omega) (by omega)).mono ?_
            rintro e w3 ⟨rfl, hb3⟩
            have HB3 := Lib.hid hb3
            clear hb3 c0 c1 c2 c3 c4 c5 c6 c7 c8 c9 c10 c11 c12 c13 c14 c15
            go_wp2_with fail
            refine (withZone_any _ _ _).mono ?_
            rintro e w4 ⟨rfl, hb4⟩
            have hb24 := below_tr HB3.out hb4
            have hres := row_on hb24 HS4.out.res
            have HB4 := Lib.hid (below_tr HS4.out.below hb24)
            clear hb4 hb24
            obtain ⟨q0, q1, q2, q3, q4, f0, f1, f2, f3, f4⟩ := nz5_facts hres
            clear hres
            unfold naddr
            go_wp2_with fail
            exact bodyPost_ret (v := .tuple #[naddr 2306139568115548160 0 true, .nilIface]) (by simp [results, Tryz.results171, go_sem, naddr, q0, q1, q2, q3, q4]) rfl ⟨rfl, below_set5 HB4.out (Nat.le_refl _) _ _ _ _ _⟩
        · rw [hg, hrest] at hgr
          have hd := digL_all n
          rw [hg, hd.2.2] at hvm
          subst hvm
          have hmk : y.size = k := by rw [hgr.size, HM.out, hg]; rfl
          have hrow := hsb.row
          have c0 : wo.cell? ⟨w.heap.size + 1, 4, none⟩ = some (.int .u8 0) := cell_of_row wo _ 4 _ _ _ hrow
          have c1 : wo.cell? ⟨w.heap.size + 1, 5, none⟩ = some (.int .u8 0) := cell_of_row wo _ 5 _ _ _ hrow
          have z0 : wo.frozen? ⟨w.heap.size + 1, 4, none⟩ = false := frozen_of_row wo _ 4 _ _ hrow
          have z1 : wo.frozen? ⟨w.heap.size + 1, 5, none⟩ = false := frozen_of_row wo _ 5 _ _ hrow
          obtain ⟨x0, hx0⟩ : ∃ x : Nat, x = v / 256 := ⟨_, rfl⟩
          obtain ⟨x1, hx1⟩ : ∃ x : Nat, x = v % 256 := ⟨_, rfl⟩
          have e0 : (v : Int) / 256 = x0 := by omega
          have e1 : (v : Int) % 256 = x1 := by omega
          have b0 : x0 ≤ 255 := by omega
          have b1 : x1 ≤ 255 := by omega
          have HV := Lib.hid (show v = x0 * 256 + x1 by omega)
          have HSB := Lib.hid hsb
          clear hg hrest hgr hrow hsb hv hd hx0 hx1
          subst hmk
          go_wp2_with fail
          have hsb4 := (HSB.out.store 4 (.int .u8 x0)).store 5 (.int .u8 x1)
          generalize (wo.setCell _ _).setCell _ _ = W1 at hsb4 ⊢
          have hrow := hsb4.row
          have c4 : W1.cell? ⟨w.heap.size + 1, 4, none⟩ = some (.int .u8 x0) := cell_of_row W1 _ 4 _ _ _ hrow
          have c5 : W1.cell? ⟨w.heap.size + 1, 5, none⟩ = some (.int .u8 x1) := cell_of_row W1 _ 5 _ _ _ hrow
          have c14 : W1.cell? ⟨w.heap.size + 1, 14, none⟩ = some (.int .u8 0) := cell_of_row W1 _ 14 _ _ _ hrow
          have c15 : W1.cell? ⟨w.heap.size + 1, 15, none⟩ = some (.int .u8 0) := cell_of_row W1 _ 15 _ _ _ hrow
          have z14 : W1.frozen? ⟨w.heap.size + 1, 14, none⟩ = false := frozen_of_row W1 _ 14 _ _ hrow
          have z15 : W1.frozen? ⟨w.heap.size + 1, 15, none⟩ = false := frozen_of_row W1 _ 15 _ _ hrow
          have hsb5 := (hsb4.store 15 (.int .u8 x1)).store 14 (.int .u8 x0)
          obtain ⟨W2, hcl, hs2⟩ := six_clear (cs' := c16 x0 x1) hsb5 4 10 12 (by omega) (by simp [csC, csB, z16]) (by simp [csC, csB, z16, putL, List.replicate, c16])
          have hrow2 := hs2.row
          unfold c16 at hrow2
          obtain ⟨d0, d1, d2, d3, d4, d5, d6, d7, d8, d9, d10, d11, d12, d13, d14, d15, _⟩ := row16_facts hrow2
          have HS4 := Lib.hid hs2
          clear hsb4 hsb5 hs2 hrow hrow2
          refine wp_loop_rounds 3 ?_
          rw [rounds_succ]
          go_wp2_with fail
          rw [rounds_succ]
          go_wp2_with fail
          rw [rounds_succ]
          go_wp2_with (simp only [hcl])
          refine (addrFrom16_any x0 x1 _ b0 b1).mono ?_
          rintro e w3 ⟨rfl, hb3⟩
          have HB3 := Lib.hid hb3
          clear hb3 d0 d1 d2 d3 d4 d5 d6 d7 d8 d9 d10 d11 d12 d13 d14 d15
          rw [← HV.out]
          go_wp2_with fail
          refine (withZone_any _ _ _).mono ?_
          rintro e w4 ⟨rfl, hb4⟩
          have hb24 := below_tr HB3.out hb4
          have hres := row_on hb24 HS4.out.res
          have HB4 := Lib.hid (below_tr HS4.out.below hb24)
          clear hb4 hb24
          obtain ⟨q0, q1, q2, q3, q4, f0, f1, f2, f3, f4⟩ := nz5_facts hres
          clear hres
          unfold naddr
          go_wp2_with fail
          exact bodyPost_ret (v := .tuple #[naddr 2306139568115548160 v true, .nilIface]) (by simp [results, Tryz.results171, go_sem, naddr, q0, q1, q2, q3, q4]) rfl ⟨rfl, below_set5 HB4.out (Nat.le_refl _) _ _ _ _ _⟩

end Go.Proofs.YtnehofekgnbelaaGreatDoor

/-
  cniip: a whole number as bytes, more or less one.
-/
namespace Go.Proofs.YtnehofekgnbelaaGreatDoor
open Go.RowKit
set_option linter.unusedVariables false
set_option maxRecDepth 100000
set_option maxHeartbeats 1000000

/-- The block holds these bytes at its beginning. -/
def RowAt (w : World) (g : Nat) (l : List UInt8) : Prop := ∃ cur, w.heap[g]? = some (.cells cur 5 (0, 0)) ∧ cur.toList.take l.length = ipv l

theorem RowAt.size {cur : Array Value} {l : List UInt8} (h : cur.toList.take l.length = ipv l) : l.length ≤ cur.size := by
  have := congrArg List.length h
  rw [List.length_take, ipv_length] at this
  have e : cur.toList.length = cur.size := by simp
  omega
theorem RowAt.cell {w : World} {g : Nat} {l : List UInt8} (h : RowAt w g l) (i : Nat) (hi : i < l.length) : w.cell? ⟨g, i, none⟩ = some (.int .u8 (l.getD i 0).toNat) := by
  obtain ⟨cur, hg, ht⟩ := h
  have hs := RowAt.size ht
  rw [cell_of_row w g i cur _ _ hg]
  have h1 : (cur.toList.take l.length)[i]? = some (.int .u8 (l.getD i 0).toNat) := by
    rw [ht, ← ipv_getD l i hi, List.getD_eq_getElem?_getD, List.getElem?_eq_getElem (by rw [ipv_length]; exact hi)]
    rfl
  rw [List.getElem?_take, if_pos hi] at h1
  simpa using h1
theorem RowAt.free {w : World} {g : Nat} {l : List UInt8} (h : RowAt w g l) (i : Nat) : w.frozen? ⟨g, i, none⟩ = false := by
  obtain ⟨cur, hg, _⟩ := h
  exact frozen_of_row w g i cur _ hg
theorem RowAt.store {w : World} {g : Nat} {l : List UInt8} (h : RowAt w g l) (i : Nat) (x : UInt8) : RowAt (w.setCell ⟨g, i, none⟩ (.int .u8 x.toNat)) g (l.set i x) := by
  obtain ⟨cur, hg, ht⟩ := h
  refine ⟨_, heap_setCell_same w g i cur _ _ hg, ?_⟩
  rw [Array.toList_setIfInBounds, List.length_set, List.take_set, ht]
  simp [ipv, List.map_set, u8v]
theorem RowAt.sl {w : World} {g cap : Nat} {l : List UInt8} (h : RowAt w g l) (hl : l.length ≤ cap) (hm : cap ≤ maxLen) : SlAt w (.slice (some ⟨g, 0, none⟩) l.length cap) (ipv l) := by
  have := SlAt.mk (w := w) (b := g) (off := 0) (cap := cap) (xs := ipv l) (by rw [ipv_length]; exact hl) hm (fun i hi => by
    rw [ipv_length] at hi
    rw [Nat.zero_add, h.cell i hi, ipv_getD l i hi])
  rw [ipv_length] at this
  exact this

/- PLAIN: more or less one -/
theorem val_replicate0 (k : Nat) : val (List.replicate k 0) = 0 := by
  induction k with
  | zero => rfl
  | succ k ih => rw [List.replicate_succ, val_cons, ih]; simp
theorem val_replicate255 (k : Nat) : val (List.replicate k 255) + 1 = 256 ^ k := by
  induction k with
  | zero => rfl
  | succ k ih =>
    rw [List.replicate_succ, val_cons, List.length_replicate, Nat.pow_succ, Nat.add_assoc, ih]
    have : (255 : UInt8).toNat = 255 := rfl
    rw [this]
    omega
theorem set_mid (a r : List UInt8) (x y : UInt8) : (a ++ x :: r).set a.length y = a ++ y :: r := by
  rw [List.set_append_right _ _ (Nat.le_refl _)]; simp
theorem take_mid (l : List UInt8) (i : Nat) (hi : i < l.length) : l.take (i + 1) = l.take i ++ [l.getD i 0] := by
  rw [List.take_succ_eq_append_getElem hi, List.getD_eq_getElem?_getD, List.getElem?_eq_getElem hi]; rfl

/-- The state of the loop: at place i; behind it all are z, where o held c. -/
structure Inc (o : List UInt8) (z c : UInt8) (i : Nat) (cur : List UInt8) : Prop where
  lt : i < o.length
  cur : cur = o.take (i + 1) ++ List.replicate (o.length - 1 - i) z
  old : o = o.take (i + 1) ++ List.replicate (o.length - 1 - i) c
theorem Inc.len {o : List UInt8} {z c : UInt8} {i : Nat} {cur : List UInt8} (h : Inc o z c i cur) : cur.length = o.length := by
  rw [h.cur, List.length_append, List.length_take, List.length_replicate]
  have := h.lt
  omega
theorem Inc.at {o : List UInt8} {z c : UInt8} {i : Nat} {cur : List UInt8} (h : Inc o z c i cur) : cur.getD i 0 = o.getD i 0 := by
  rw [h.cur, take_mid o i h.lt, List.append_assoc, List.getD_eq_getElem?_getD, List.getElem?_append_right (by rw [List.length_take]; omega)]
  have hl := h.lt
  have : i - (o.take i).length = 0 := by rw [List.length_take]; omega
  rw [this]
  rfl
theorem Inc.set {o : List UInt8} {z c : UInt8} {i : Nat} {cur : List UInt8} (h : Inc o z c i cur) (y : UInt8) :
    cur.set i y = o.take i ++ y :: List.replicate (o.length - 1 - i) z := by
  have hl := h.lt
  have e : (o.take i).length = i := by rw [List.length_take]; omega
  rw [h.cur, take_mid o i hl, List.append_assoc, List.singleton_append]
  have := set_mid (o.take i) (List.replicate (o.length - 1 - i) z) (o.getD i 0) y
  rw [e] at this
  exact this
theorem Inc.start (o : List UInt8) (z c : UInt8) (h : 0 < o.length) : Inc o z c (o.length - 1) o := by
  refine ⟨by omega, ?_, ?_⟩
  all_goals
    rw [show o.length - 1 + 1 = o.length by omega, List.take_length, Nat.sub_self]
    simp
theorem Inc.next {o : List UInt8} {z c : UInt8} {i : Nat} {cur : List UInt8} (h : Inc o z c (i + 1) cur) (hc : o.getD (i + 1) 0 = c) : Inc o z c i (cur.set (i + 1) z) := by
  have hl := h.lt
  refine ⟨by omega, ?_, ?_⟩
  · rw [h.set, show o.length - 1 - i = o.length - 1 - (i + 1) + 1 by omega, List.replicate_succ]
  · have := h.old
    rw [take_mid o (i + 1) hl, hc, List.append_assoc, List.singleton_append, ← List.replicate_succ] at this
    rw [show o.length - 1 - i = o.length - 1 - (i + 1) + 1 by omega]
    exact this
/-- More by one: behind the place noughts, where 255 was. -/
theorem Inc.up {o : List UInt8} {i : Nat} {cur : List UInt8} (h : Inc o 0 255 i cur) (y : UInt8) (hy : y.toNat = (o.getD i 0).toNat + 1) : val (cur.set i y) = val o + 1 := by
  have h1 := h.old
  rw [take_mid o i h.lt, List.append_assoc, List.singleton_append] at h1
  generalize o.length - 1 - i = k at h1
  have hs := h.set y
  generalize ho : o.length - 1 - i = k' at hs
  obtain rfl : k' = k := by
    have := congrArg List.length h1
    rw [List.length_append, List.length_cons, List.length_replicate, List.length_take] at this
    have := h.lt
    omega
  rw [hs]
  have h2 := val_replicate255 k'
  have h3 : val o = val (o.take i ++ o.getD i 0 :: List.replicate k' 255) := by rw [← h1]
  rw [h3, val_append, val_append, val_cons, val_cons, List.length_cons, List.length_cons, List.length_replicate, List.length_replicate, val_replicate0, hy, Nat.add_mul]
  omega
/-- Less by one: behind the place 255, where noughts were. -/
theorem Inc.down {o : List UInt8} {i : Nat} {cur : List UInt8} (h : Inc o 255 0 i cur) (y : UInt8) (hy : y.toNat + 1 = (o.getD i 0).toNat) : val (cur.set i y) + 1 = val o := by
  have h1 := h.old
  rw [take_mid o i h.lt, List.append_assoc, List.singleton_append] at h1
  generalize o.length - 1 - i = k at h1
  have hs := h.set y
  generalize ho : o.length - 1 - i = k' at hs
  obtain rfl : k' = k := by
    have := congrArg List.length h1
    rw [List.length_append, List.length_cons, List.length_replicate, List.length_take] at this
    have := h.lt
    omega
  rw [hs]
  have h2 := val_replicate255 k'
  have h3 : val o = val (o.take i ++ o.getD i 0 :: List.replicate k' 0) := by rw [← h1]
  rw [h3, val_append, val_append, val_cons, val_cons, List.length_cons, List.length_cons, List.length_replicate, List.length_replicate, val_replicate0, ← hy, Nat.add_mul]
  omega

end Go.Proofs.YtnehofekgnbelaaGreatDoor

/-
  Texts put together: From4, Par4, PAddr, A16, Zone, Put.
-/
import Derived.Test.YtnehofekgnbelaaGreatDoorM7
import Derived.Test.YtnehofekgnbelaaGreatDoorM2
import Derived.Laws.Bits64b

/-
  netip.Addr of four bytes: z4, AddrFrom4, parseIPv4.
-/
namespace Go.Proofs.YtnehofekgnbelaaGreatDoor
open Go.RowKit
set_option linter.unusedVariables false
set_option maxRecDepth 100000
set_option maxHeartbeats 1000000

/-- The values of netip: an address's halves, and what kind it is. -/
def detail (six : Bool) : Value := .agg #[.bool true, .bool six, .string ⟨#[]⟩]
def naddr (hi lo : Nat) (six : Bool) : Value := .agg #[.int .u64 hi, .int .u64 lo, .bool true, .bool six, .string ⟨#[]⟩]
def BelowPost (w : World) (v : Value) (e : Ending) (w' : World) : Prop := e = .returned v ∧ Below w.heap.size w w'

theorem z4_any (w : World) : Calls Tryz.prog 132 #[] w (BelowPost w (detail false)) := by
  go_enter Tryz.func132, Tryz.ntmps132
  go_wp2_with fail
  exact bodyPost_ret (v := detail false) (by simp [results, Tryz.results132, go_sem, detail]) rfl ⟨rfl, (Below.refl w.heap.size w).alloc (Nat.le_refl _) _⟩

theorem z6noz_any (w : World) : Calls Tryz.prog 163 #[] w (BelowPost w (detail true)) := by
  go_enter Tryz.func163, Tryz.ntmps163
  go_wp2_with fail
  exact bodyPost_ret (v := detail true) (by simp [results, Tryz.results163, go_sem, detail]) rfl ⟨rfl, (Below.refl w.heap.size w).alloc (Nat.le_refl _) _⟩

theorem z0_any (w : World) : Calls Tryz.prog 131 #[] w (BelowPost w (.agg #[.bool false, .bool false, .string ⟨#[]⟩])) := by
  go_enter Tryz.func131, Tryz.ntmps131
  go_wp2_with fail
  exact bodyPost_ret (v := .agg #[.bool false, .bool false, .string ⟨#[]⟩]) (by simp [results, Tryz.results131, go_sem]) rfl ⟨rfl, (Below.refl w.heap.size w).alloc (Nat.le_refl _) _⟩

/- BYTES AS A NUMBER -/
theorem w64 (n : Int) (h0 : 0 ≤ n) (h1 : n < 2 ^ 64) : IntKind.u64.wrap n = n := by rw [IntKind.wrap_u64]; omega
theorem or64 (i : Nat) (x y : Int) (h0 : 0 ≤ x) (hx : x % 2 ^ i = 0) (h1 : x < 18446744073709551616) (y0 : 0 ≤ y) (y1 : y < 2 ^ i) (y2 : y < 18446744073709551616) : bits .or .u64 x y = x + y :=
  bits_join .u64 64 (by decide) w64 i x y h0 hx h1 y0 y1 y2

theorem val_snoc (l : List UInt8) (x : UInt8) : val (l ++ [x]) = val l * 256 + x.toNat := by
  rw [val_append]; simp [val]

theorem beUint64_any (b off cap : Nat) (bs : List UInt8) (w : World) (h : IPAt w (.slice (some ⟨b, off, none⟩) 8 cap) bs) :
    Calls Tryz.prog 162 #[.slice (some ⟨b, off, none⟩) 8 cap] w (fun e w' => e = .returned (.int .u64 (val bs)) ∧ w = w') := by
  obtain ⟨hl, hb, hcap, hcm, hc⟩ := h.facts
  have c7 : w.cell? ⟨b, off + 7, none⟩ = some (.int .u8 (bs.getD 7 0).toNat) := hc 7 (by omega)
  have hlt : ∀ k, k ≤ 8 → val (bs.take k) < 256 ^ k := fun k hk => by
    have := val_lt (bs.take k)
    rw [List.length_take, hl, Nat.min_eq_left hk] at this
    exact this
  have HC := Lib.hid hc
  have HL := Lib.hid hl
  have HLT := Lib.hid hlt
  clear hc hl hlt h
  go_enter Tryz.func162, Tryz.ntmps162
  go_wp2_with fail
  go_loop [3, 4] (fun v i => ∃ (k n : Nat), k ≤ 8 ∧ i = .int .i64 k ∧ v = .int .u64 n ∧ Hid (n = val (bs.take k))) (fun _ i => 8 - (intOf i).toNat)
  case atStart => exact ⟨0, 0, by omega, rfl, rfl, rfl⟩
  case round =>
    obtain ⟨k, n, hk, rfl, rfl, hn⟩ := hrel
    by_cases h8 : k = 8
    · subst h8
      have e : bs.take 8 = bs := List.take_of_length_le (by rw [HL.out]; exact Nat.le_refl _)
      have HN : Hid (n = val bs) := by rw [← e]; exact hn.out
      clear e hn
      go_wp2_with fail
      go_ret
      exact ⟨by rw [HN.out]; rfl, rfl⟩
    · have t1 : decide ((k : Int) < 8) = true := decide_eq_true (by omega)
      have ck := HC.out k (by omega)
      have hvs := val_snoc (bs.take k) (bs.getD k 0)
      rw [← take_getD bs k (by rw [HL.out]; omega), ← hn.out] at hvs
      have hlt := HLT.out (k + 1) (by omega)
      rw [hvs] at hlt
      have h64 : (256 : Nat) ^ (k + 1) ≤ 18446744073709551616 := Nat.pow_le_pow_right (n := 256) (by decide) (show k + 1 ≤ 8 by omega)
      generalize bs.getD k 0 = x at ck hvs hlt
      have hx := x.toNat_lt
      obtain ⟨m, hm⟩ : ∃ m, m = n * 256 + x.toNat := ⟨_, rfl⟩
      have b0 : IntKind.u64.wrap ((n : Int) * 256) = (n : Int) * 256 := w64 _ (by omega) (by omega)
      have b1 : bits .or .u64 ((n : Int) * 256) (x.toNat : Int) = (m : Int) := by
        rw [or64 8 _ _ (by omega) (by omega) (by omega) (by omega) (by omega) (by omega)]
        omega
      have HVS := Lib.hid hvs
      have HM := Lib.hid hm
      have HL2 := Lib.hid hlt
      have H64 := Lib.hid h64
      clear hvs hm hlt h64 hn
      go_wp2_with fail
      go_round
      case rel => exact ⟨k + 1, m, by omega, by go_num, rfl, by rw [HM.out, HVS.out]; rfl⟩
      case measure => simp [intOf]; omega

end Go.Proofs.YtnehofekgnbelaaGreatDoor

/-
  netip.AddrFrom4, parseIPv4.
-/
namespace Go.Proofs.YtnehofekgnbelaaGreatDoor
open Go.RowKit
set_option linter.unusedVariables false
set_option maxRecDepth 100000
set_option maxHeartbeats 1000000

theorem two_kept {w w2 : World} {o1 o2 : Obj} (hb : Below ((w.alloc o1).alloc o2).drew.heap.size ((w.alloc o1).alloc o2).drew w2) :
    w2.heap[w.heap.size]? = some o1 ∧ w2.heap[w.heap.size + 1]? = some o2 ∧ Below w.heap.size w w2 := by
  have hb2 : Below ((w.alloc o1).alloc o2).heap.size ((w.alloc o1).alloc o2) w2 := below_tr (below_drewN (Below.refl _ _) 1) hb
  refine ⟨?_, ?_, below_tr (((Below.refl w.heap.size w).alloc (Nat.le_refl _) _).alloc (by simp) _) hb2⟩
  · rw [hb2.block w.heap.size (by simp; omega), heap_alloc_old _ _ (by simp)]
    exact heap_alloc_new w _
  · rw [hb2.block (w.heap.size + 1) (by simp)]
    have := heap_alloc_new (w.alloc o1) o2
    rw [World.size_alloc] at this
    exact this

/-- The cells of a netip.Addr, zero. -/
def nz5 : Array Value := #[.int .u64 0, .int .u64 0, .bool false, .bool false, .string ⟨#[]⟩]
theorem nz5_facts {w : World} {B : Nat} {T : TypeId} (h : w.heap[B]? = some (.cells nz5 T (0, 0))) :
    w.cell? ⟨B, 0, none⟩ = some (.int .u64 0) ∧ w.cell? ⟨B, 1, none⟩ = some (.int .u64 0) ∧ w.cell? ⟨B, 2, none⟩ = some (.bool false) ∧ w.cell? ⟨B, 3, none⟩ = some (.bool false) ∧ w.cell? ⟨B, 4, none⟩ = some (.string ⟨#[]⟩) ∧
    w.frozen? ⟨B, 0, none⟩ = false ∧ w.frozen? ⟨B, 1, none⟩ = false ∧ w.frozen? ⟨B, 2, none⟩ = false ∧ w.frozen? ⟨B, 3, none⟩ = false ∧ w.frozen? ⟨B, 4, none⟩ = false :=
  ⟨cell_of_row w _ 0 _ _ _ h, cell_of_row w _ 1 _ _ _ h, cell_of_row w _ 2 _ _ _ h, cell_of_row w _ 3 _ _ _ h, cell_of_row w _ 4 _ _ _ h, frozen_of_row w _ 0 _ _ h, frozen_of_row w _ 1 _ _ h, frozen_of_row w _ 2 _ _ h, frozen_of_row w _ 3 _ _ h, frozen_of_row w _ 4 _ _ h⟩
theorem row4_facts {w : World} {B : Nat} {T : TypeId} {a b c d : Value} (h : w.heap[B]? = some (.cells #[a, b, c, d] T (0, 0))) :
    w.cell? ⟨B, 0, none⟩ = some a ∧ w.cell? ⟨B, 1, none⟩ = some b ∧ w.cell? ⟨B, 2, none⟩ = some c ∧ w.cell? ⟨B, 3, none⟩ = some d :=
  ⟨cell_of_row w _ 0 _ _ _ h, cell_of_row w _ 1 _ _ _ h, cell_of_row w _ 2 _ _ _ h, cell_of_row w _ 3 _ _ _ h⟩
theorem below_set5 {k : Nat} {w w' : World} {B : Nat} (h : Below k w w') (hB : k ≤ B) (a b c d e : Value) :
    Below k w (((((w'.setCell ⟨B, 0, none⟩ a).setCell ⟨B, 1, none⟩ b).setCell ⟨B, 2, none⟩ c).setCell ⟨B, 3, none⟩ d).setCell ⟨B, 4, none⟩ e) :=
  ((((h.setCell hB _).setCell hB _).setCell hB _).setCell hB _).setCell hB _

theorem addrFrom4_any (g0 g1 g2 g3 : Nat) (w : World) (h0 : g0 ≤ 255) (h1 : g1 ≤ 255) (h2 : g2 ≤ 255) (h3 : g3 ≤ 255) :
    Calls Tryz.prog 129 #[.agg #[.int .u8 g0, .int .u8 g1, .int .u8 g2, .int .u8 g3]] w (BelowPost w (naddr 0 (281470681743360 + foldF [g0, g1, g2, g3]) false)) := by
  obtain ⟨s0, hs0⟩ : ∃ s, s = g0 * 16777216 := ⟨_, rfl⟩
  have b0 : IntKind.u64.wrap ((g0 : Int) * 16777216) = (s0 : Int) := by rw [w64 _ (by omega) (by omega)]; omega
  obtain ⟨s1, hs1⟩ : ∃ s, s = g1 * 65536 := ⟨_, rfl⟩
  have b1 : IntKind.u64.wrap ((g1 : Int) * 65536) = (s1 : Int) := by rw [w64 _ (by omega) (by omega)]; omega
  obtain ⟨s2, hs2⟩ : ∃ s, s = g2 * 256 := ⟨_, rfl⟩
  have b2 : IntKind.u64.wrap ((g2 : Int) * 256) = (s2 : Int) := by rw [w64 _ (by omega) (by omega)]; omega
  have k0 : IntKind.u64.wrap (g0 : Int) = (g0 : Int) := w64 _ (by omega) (by omega)
  have k1 : IntKind.u64.wrap (g1 : Int) = (g1 : Int) := w64 _ (by omega) (by omega)
  have k2 : IntKind.u64.wrap (g2 : Int) = (g2 : Int) := w64 _ (by omega) (by omega)
  have k3 : IntKind.u64.wrap (g3 : Int) = (g3 : Int) := w64 _ (by omega) (by omega)
  obtain ⟨m1, hm1⟩ : ∃ m, m = 281470681743360 + s0 := ⟨_, rfl⟩
  have o1 : bits .or .u64 (281470681743360 : Int) (s0 : Int) = (m1 : Int) := by rw [or64 32 _ _ (by omega) (by omega) (by omega) (by omega) (by omega) (by omega)]; omega
  obtain ⟨m2, hm2⟩ : ∃ m, m = m1 + s1 := ⟨_, rfl⟩
  have o2 : bits .or .u64 (m1 : Int) (s1 : Int) = (m2 : Int) := by rw [or64 24 _ _ (by omega) (by omega) (by omega) (by omega) (by omega) (by omega)]; omega
  obtain ⟨m3, hm3⟩ : ∃ m, m = m2 + s2 := ⟨_, rfl⟩
  have o3 : bits .or .u64 (m2 : Int) (s2 : Int) = (m3 : Int) := by rw [or64 16 _ _ (by omega) (by omega) (by omega) (by omega) (by omega) (by omega)]; omega
  obtain ⟨m4, hm4⟩ : ∃ m, m = m3 + g3 := ⟨_, rfl⟩
  have o4 : bits .or .u64 (m3 : Int) (g3 : Int) = (m4 : Int) := by rw [or64 8 _ _ (by omega) (by omega) (by omega) (by omega) (by omega) (by omega)]; omega
  have HM : Hid (m4 = 281470681743360 + foldF [g0, g1, g2, g3]) := by
    show m4 = _
    simp only [foldF, List.foldl]
    omega
  clear hs0 hs1 hs2 hm1 hm2 hm3 hm4
  rw [← HM.out]
  clear HM
  go_enter Tryz.func129, Tryz.ntmps129
  go_wp2_with fail
  go_region_held3 (fun w' => w'.cell? ⟨w.heap.size, 0, none⟩ = some (.int .u8 g0) ∧ w'.cell? ⟨w.heap.size, 1, none⟩ = some (.int .u8 g1) ∧ w'.cell? ⟨w.heap.size, 2, none⟩ = some (.int .u8 g2) ∧ w'.cell? ⟨w.heap.size, 3, none⟩ = some (.int .u8 g3)) (go_keep) (first | (go_at_call 132; refine (z4_any _).mono ?_; rintro e w2 ⟨rfl, hb⟩; unfold detail; have hk := two_kept hb; have hk1 := row4_facts hk.1; obtain ⟨q0, q1, q2, q3, q4, f0, f1, f2, f3, f4⟩ := nz5_facts hk.2.1; have HB := Lib.hid hk.2.2; clear hk hb))
  go_wp2_with fail
  refine bodyPost_ret (v := naddr 0 m4 false) (by simp [results, Tryz.results129, go_sem, naddr, q0, q1, q2, q3, q4]) rfl ⟨rfl, below_set5 HB.out (by omega) _ _ _ _ _⟩

/-- What parsing tells: an address, and no error. -/
def ParsedPost (w : World) (v : Value) (e : Ending) (w' : World) : Prop := e = .returned (.tuple #[v, .nilIface]) ∧ Below w.heap.size w w'

theorem parseIPv4_any (s : ByteArray) (N : Nat) (w : World) (hq : quadN 3 (bl s) 0 = some N) (hs : s.size ≤ 1000) :
    Calls Tryz.prog 170 #[.string s] w (ParsedPost w (naddr 0 (281470681743360 + N) false)) := by
  have h2 : ((w.alloc (.cells nz5 160)).alloc (.cells (f4 []) 214)).heap[w.heap.size + 1]? = some (.cells (f4 []) 214 (0, 0)) := by
    have := heap_alloc_new (w.alloc (.cells nz5 160)) (.cells (f4 []) 214)
    rw [World.size_alloc] at this
    exact this
  have hf := fields_any s N (w.heap.size + 1) 214 _ hq hs h2
  obtain ⟨lo, hlo⟩ : ∃ lo, lo = 281470681743360 + N := ⟨_, rfl⟩
  rw [← hlo]
  have HLO := Lib.hid hlo
  have HF := Lib.hid hf
  clear hf hq h2 hlo
  go_enter Tryz.func170, Tryz.ntmps170
  go_wp2_with fail
  refine HF.out.mono ?_
  rintro e w2 ⟨rfl, F, hl, hsm, hN, hrel⟩
  match F, hl with
  | [g0, g1, g2, g3], _ =>
    have i0 := hsm g0 (by simp)
    have i1 := hsm g1 (by simp)
    have i2 := hsm g2 (by simp)
    have i3 := hsm g3 (by simp)
    have hrow : w2.heap[w.heap.size + 1]? = some (.cells #[.int .u8 g0, .int .u8 g1, .int .u8 g2, .int .u8 g3] 214 (0, 0)) := hrel.row
    obtain ⟨c0, c1, c2, c3⟩ := row4_facts hrow
    have hres : w2.heap[w.heap.size]? = some (.cells nz5 160 (0, 0)) := by
      rw [hrel.other _ (by omega), heap_alloc_old _ _ (by simp)]
      exact heap_alloc_new w _
    have hbelow := hrel.below w (((Below.refl w.heap.size w).alloc (Nat.le_refl _) _).alloc (by simp) _) (by omega)
    have HN := Lib.hid hN
    have HR := Lib.hid hres
    have HB := Lib.hid hbelow
    clear hN hres hbelow hsm hrel hrow
    go_wp2_with fail
    refine (addrFrom4_any g0 g1 g2 g3 _ i0 i1 i2 i3).mono ?_
    rintro e w3 ⟨rfl, hb3⟩
    have hres3 : w3.heap[w.heap.size]? = some (.cells nz5 160 (0, 0)) := by
      rw [hb3.block _ (by have := (Array.getElem?_eq_some_iff.1 HR.out).1; exact this)]
      exact HR.out
    obtain ⟨q0, q1, q2, q3, q4, f0, f1, f2, f3, f4⟩ := nz5_facts hres3
    rw [← HN.out, ← HLO.out]
    have HB3 := Lib.hid (below_tr HB.out hb3)
    clear hb3 hres3
    unfold naddr
    go_wp2_with fail
    exact bodyPost_ret (v := .tuple #[naddr 0 lo false, .nilIface]) (by simp [results, Tryz.results170, go_sem, naddr, q0, q1, q2, q3, q4]) rfl ⟨rfl, below_set5 HB3.out (Nat.le_refl _) _ _ _ _ _⟩

end Go.Proofs.YtnehofekgnbelaaGreatDoor

/-
  netip.indexByte; ParseAddr of four numbers.
-/
namespace Go.Proofs.YtnehofekgnbelaaGreatDoor
open Go.RowKit
set_option linter.unusedVariables false
set_option maxRecDepth 100000
set_option maxHeartbeats 1000000

theorem index_none (s : ByteArray) (c : UInt8) (w : World) (hs : s.size ≤ 1000) (hall : ∀ b ∈ bl s, b ≠ c) :
    Calls Tryz.prog 182 #[.string s, .int .u8 c.toNat] w (fun e w' => e = .returned (.int .i64 (-1)) ∧ w = w') := by
  have HA := Lib.hid hall
  clear hall
  go_enter Tryz.func182, Tryz.ntmps182
  go_wp2
  go_loop [5] (fun i => ∃ k : Nat, k ≤ s.size ∧ i = .int .i64 k) (fun i => s.size - (intOf i).toNat)
  case atStart => exact ⟨0, Nat.zero_le _, rfl⟩
  case round =>
    obtain ⟨k, hk, rfl⟩ := hrel
    by_cases hlt : k < s.size
    · have hq : s[k] ≠ c := HA.out _ (mem_take_bl s k hlt)
      have t1 : ((s[k].toNat : Int) == (c.toNat : Int)) = false := by
        rw [beq_eq_false_iff_ne]
        intro h
        exact hq (UInt8.toNat_inj.1 (by omega))
      have HQ := Lib.hid hq
      clear hq
      go_wp2
      go_round
      case rel => exact ⟨k + 1, by omega, by go_num⟩
      case measure => simp [intOf]; omega
    · obtain rfl : k = s.size := by omega
      go_wp2
      go_ret
      exact ⟨rfl, rfl⟩

theorem nz5_old {w w2 : World} {T : TypeId} (hb : Below (w.alloc (.cells nz5 T)).heap.size (w.alloc (.cells nz5 T)) w2) :
    w2.heap[w.heap.size]? = some (.cells nz5 T (0, 0)) ∧ Below w.heap.size w w2 := by
  refine ⟨?_, below_tr ((Below.refl w.heap.size w).alloc (Nat.le_refl _) _) hb⟩
  rw [hb.block w.heap.size (by simp)]
  exact heap_alloc_new w _

theorem parseAddr_four (s : ByteArray) (N : Nat) (w : World) (hq : quadN 3 (bl s) 0 = some N) (hs : s.size ≤ 1000) :
    Calls Tryz.prog 137 #[.string s] w (ParsedPost w (naddr 0 (281470681743360 + N) false)) := by
  have HP := Lib.hid (fun w => parseIPv4_any s N w hq hs)
  have HQ := Lib.hid (Q4.start hq)
  generalize 281470681743360 + N = lo at HP ⊢
  clear hq
  go_enter Tryz.func137, Tryz.ntmps137
  go_wp2_with fail
  go_loop [4] (fun i => ∃ (k : Nat) (c : List UInt8), k ≤ s.size ∧ i = .int .i64 k ∧ Hid (Q4 (bl s) N k 0 c [])) (fun i => s.size - (intOf i).toNat)
  case atStart => exact ⟨0, [], by omega, rfl, HQ.out⟩
  case round =>
    obtain ⟨k, c, hk, rfl, hr⟩ := hrel
    by_cases hlt : k < s.size
    · have hgk := bl_getD s k hlt
      by_cases hd : isDig s[k] = true
      · have hst := hr.out.digit (by rw [bl_length]; exact hlt) (by rw [hgk]; exact hd)
        have hdd : 48 ≤ (s[k].toNat : Int) ∧ (s[k].toNat : Int) ≤ 57 := of_decide_eq_true hd
        have HQ2 := Lib.hid hst.1
        have t1 : ((s[k].toNat : Int) == 46) = false := by rw [beq_eq_false_iff_ne]; omega
        have t2 : ((s[k].toNat : Int) == 58) = false := by rw [beq_eq_false_iff_ne]; omega
        have t3 : ((s[k].toNat : Int) == 37) = false := by rw [beq_eq_false_iff_ne]; omega
        clear hst hdd hd hgk
        go_wp2_with fail
        go_round
        case rel => exact ⟨k + 1, _, by omega, by go_num, HQ2.out⟩
        case measure => simp [intOf]; omega
      · have h46 := hr.out.other (by rw [bl_length]; exact hlt) (by rw [hgk]; simpa using hd)
        rw [hgk] at h46
        have t1 : ((s[k].toNat : Int) == 46) = true := by rw [h46]; rfl
        clear h46 hd hgk
        go_wp2_with fail
        refine (HP.out _).mono ?_
        rintro e w2 ⟨rfl, hb⟩
        obtain ⟨hres, hbw⟩ := nz5_old hb
        obtain ⟨q0, q1, q2, q3, q4, f0, f1, f2, f3, f4⟩ := nz5_facts hres
        have HB := Lib.hid hbw
        clear hb hres hbw
        unfold naddr
        go_wp2_with fail
        exact bodyPost_ret (v := .tuple #[naddr 0 lo false, .nilIface]) (by simp [results, Tryz.results137, go_sem, naddr, q0, q1, q2, q3, q4]) rfl ⟨rfl, below_set5 HB.out (Nat.le_refl _) _ _ _ _ _⟩
    · exfalso
      have := (hr.out.stop (by rw [bl_length]; omega)).1
      omega

end Go.Proofs.YtnehofekgnbelaaGreatDoor

/-
  netip.AddrFrom16.
-/
namespace Go.Proofs.YtnehofekgnbelaaGreatDoor
open Go.RowKit
set_option linter.unusedVariables false
set_option maxRecDepth 100000
set_option maxHeartbeats 1000000

/-- The sixteen cells of an address that begins with 2001:db8::. -/
def c16 (x y : Nat) : Array Value := #[.int .u8 32, .int .u8 1, .int .u8 13, .int .u8 184, .int .u8 0, .int .u8 0, .int .u8 0, .int .u8 0, .int .u8 0, .int .u8 0, .int .u8 0, .int .u8 0, .int .u8 0, .int .u8 0, .int .u8 x, .int .u8 y]

theorem ip_of_row {w : World} {B : Nat} {T : TypeId} {cs : Array Value} (h : w.heap[B]? = some (.cells cs T (0, 0))) (off n cap : Nat) (bs : List UInt8) (hl : bs.length = n) (h0 : 0 < n) (hn : n ≤ cap) (hm : cap ≤ 1000)
    (hc : ∀ i : Nat, i < n → cs[off + i]? = some (.int .u8 (bs.getD i 0).toNat)) : IPAt w (.slice (some ⟨B, off, none⟩) n cap) bs := by
  subst hl
  exact IPAt.mk h0 hn (by omega) fun i hi => by rw [cell_of_row w B (off + i) cs T (0, 0) h]; exact hc i hi

def Kept16 (w : World) (x y : Nat) (w' : World) : Prop :=
  w'.heap[w.heap.size]? = some (.cells (c16 x y) 171 (0, 0)) ∧ w'.heap[w.heap.size + 1]? = some (.cells nz5 160 (0, 0)) ∧ Below w.heap.size w w'
theorem kept16_start (w : World) (x y : Nat) : Kept16 w x y ((w.alloc (.cells (c16 x y) 171)).alloc (.cells nz5 160)).drew := two_kept (Below.refl _ _)
theorem kept16_on {w w1 w2 : World} {x y : Nat} (h : Kept16 w x y w1) (hb : Below w1.heap.size w1 w2) : Kept16 w x y w2 := by
  obtain ⟨h1, h2, h3⟩ := h
  have hl : ∀ k o, w1.heap[k]? = some o → w2.heap[k]? = some o := fun k o ho => by
    rw [hb.block k (by have := (Array.getElem?_eq_some_iff.1 ho).1; exact this)]; exact ho
  exact ⟨hl _ _ h1, hl _ _ h2, below_tr h3 hb⟩
theorem kept16_lo {w w1 : World} {x y : Nat} (h : Kept16 w x y w1) : IPAt w1 (.slice (some ⟨w.heap.size, 0, none⟩) 8 16) [32, 1, 13, 184, 0, 0, 0, 0] := by
  refine ip_of_row h.1 0 8 16 _ rfl (by omega) (by omega) (by omega) fun i hi => ?_
  obtain rfl | rfl | rfl | rfl | rfl | rfl | rfl | rfl : i = 0 ∨ i = 1 ∨ i = 2 ∨ i = 3 ∨ i = 4 ∨ i = 5 ∨ i = 6 ∨ i = 7 := by omega
  all_goals rfl
theorem kept16_hi {w w1 : World} {x y : Nat} (h : Kept16 w x y w1) (hx : x ≤ 255) (hy : y ≤ 255) : IPAt w1 (.slice (some ⟨w.heap.size, 8, none⟩) 8 8) [0, 0, 0, 0, 0, 0, UInt8.ofNat x, UInt8.ofNat y] := by
  refine ip_of_row h.1 8 8 8 _ rfl (by omega) (by omega) (by omega) fun i hi => ?_
  have e1 : (UInt8.ofNat x).toNat = x := by simp; omega
  have e2 : (UInt8.ofNat y).toNat = y := by simp; omega
  obtain rfl | rfl | rfl | rfl | rfl | rfl | rfl | rfl : i = 0 ∨ i = 1 ∨ i = 2 ∨ i = 3 ∨ i = 4 ∨ i = 5 ∨ i = 6 ∨ i = 7 := by omega
  case inr.inr.inr.inr.inr.inr.inl => simp [c16, e1]
  case inr.inr.inr.inr.inr.inr.inr => simp [c16, e2]
  all_goals rfl
theorem be_lo (w : World) (B : Nat) (h : IPAt w (.slice (some ⟨B, 0, none⟩) 8 16) [32, 1, 13, 184, 0, 0, 0, 0]) :
    Calls Tryz.prog 162 #[.slice (some ⟨B, 0, none⟩) 8 16] w (fun e w' => e = .returned (.int .u64 2306139568115548160) ∧ w = w') := beUint64_any B 0 16 _ w h
theorem be_hi (w : World) (B x y : Nat) (hx : x ≤ 255) (hy : y ≤ 255) (h : IPAt w (.slice (some ⟨B, 8, none⟩) 8 8) [0, 0, 0, 0, 0, 0, UInt8.ofNat x, UInt8.ofNat y]) :
    Calls Tryz.prog 162 #[.slice (some ⟨B, 8, none⟩) 8 8] w (fun e w' => e = .returned (.int .u64 ((x * 256 + y : Nat) : Int)) ∧ w = w') := by
  have h1 := beUint64_any B 8 8 _ w h
  have e : val [0, 0, 0, 0, 0, 0, UInt8.ofNat x, UInt8.ofNat y] = x * 256 + y := by
    have e1 : (UInt8.ofNat x).toNat = x := by simp; omega
    have e2 : (UInt8.ofNat y).toNat = y := by simp; omega
    simp only [val, List.foldl, e1, e2]
    simp
  rw [e] at h1
  exact h1

theorem addrFrom16_any (x y : Nat) (w : World) (hx : x ≤ 255) (hy : y ≤ 255) :
    Calls Tryz.prog 130 #[.agg (c16 x y)] w (BelowPost w (naddr 2306139568115548160 (x * 256 + y) true)) := by
  have HB0 := Lib.hid (fun w B => be_lo w B)
  have HB1 := Lib.hid (fun w B h => be_hi w B x y hx hy h)
  have HK0 := Lib.hid (kept16_start w x y)
  have HK1 := Lib.hid (fun w1 (h : Kept16 w x y w1) => kept16_hi h hx hy)
  obtain ⟨lo, hlo⟩ : ∃ lo, lo = x * 256 + y := ⟨_, rfl⟩
  rw [← hlo] at HB1 ⊢
  clear hlo hx hy
  unfold c16 nz5 at HK0
  unfold c16
  go_enter Tryz.func130, Tryz.ntmps130
  go_wp2_with fail
  go_region_held3 (fun _ => True) (exact trivial) (first | (go_at_call 163; refine (z6noz_any _).mono ?_; rintro e w2 ⟨rfl, hb⟩; unfold detail; have hk := two_kept hb; obtain ⟨q0, q1, q2, q3, q4, f0, f1, f2, f3, f4⟩ := nz5_facts hk.2.1; have HB := Lib.hid hk.2.2; clear hk hb) | (revert mk1; intro mk1; go_at_call 162; refine (HB1.out _ _ (HK1.out _ HK0.out)).mono ?_; rintro e w' ⟨rfl, rfl⟩) | (go_at_call 162; refine (HB0.out _ _ (kept16_lo HK0.out)).mono ?_; rintro e w' ⟨rfl, rfl⟩; have mk1 : True := trivial))
  go_wp2_with fail
  exact bodyPost_ret (v := naddr 2306139568115548160 lo true) (by simp [results, Tryz.results130, go_sem, naddr, q0, q1, q2, q3, q4]) rfl ⟨rfl, below_set5 HB.out (by omega) _ _ _ _ _⟩

end Go.Proofs.YtnehofekgnbelaaGreatDoor

/-
  netip.Addr's Zone, Is6, WithZone, As16.
-/
namespace Go.Proofs.YtnehofekgnbelaaGreatDoor
open Go.RowKit
set_option linter.unusedVariables false
set_option maxRecDepth 100000
set_option maxHeartbeats 1000000

/-- A box and what lies behind it. -/
theorem one_kept {w w2 : World} {o1 : Obj} (hb : Below (w.alloc o1).drew.heap.size (w.alloc o1).drew w2) :
    w2.heap[w.heap.size]? = some o1 ∧ Below w.heap.size w w2 := by
  have hb2 : Below (w.alloc o1).heap.size (w.alloc o1) w2 := below_tr (below_drewN (Below.refl _ _) 1) hb
  refine ⟨?_, below_tr ((Below.refl w.heap.size w).alloc (Nat.le_refl _) _) hb2⟩
  rw [hb2.block w.heap.size (by simp)]
  exact heap_alloc_new w _
theorem two_kept' {w w2 : World} {o1 o2 : Obj} (hb : Below ((w.alloc o1).alloc o2).heap.size ((w.alloc o1).alloc o2) w2) :
    w2.heap[w.heap.size]? = some o1 ∧ w2.heap[w.heap.size + 1]? = some o2 ∧ Below w.heap.size w w2 := by
  refine ⟨?_, ?_, below_tr (((Below.refl w.heap.size w).alloc (Nat.le_refl _) _).alloc (by simp) _) hb⟩
  · rw [hb.block w.heap.size (by simp; omega), heap_alloc_old _ _ (by simp)]
    exact heap_alloc_new w _
  · rw [hb.block (w.heap.size + 1) (by simp)]
    have := heap_alloc_new (w.alloc o1) o2
    rw [World.size_alloc] at this
    exact this
theorem row5_facts {w : World} {B : Nat} {T : TypeId} {a b c d e : Value} (h : w.heap[B]? = some (.cells #[a, b, c, d, e] T (0, 0))) :
    w.cell? ⟨B, 0, none⟩ = some a ∧ w.cell? ⟨B, 1, none⟩ = some b ∧ w.cell? ⟨B, 2, none⟩ = some c ∧ w.cell? ⟨B, 3, none⟩ = some d ∧ w.cell? ⟨B, 4, none⟩ = some e :=
  ⟨cell_of_row w _ 0 _ _ _ h, cell_of_row w _ 1 _ _ _ h, cell_of_row w _ 2 _ _ _ h, cell_of_row w _ 3 _ _ _ h, cell_of_row w _ 4 _ _ _ h⟩

theorem zone_any (hi lo : Nat) (six : Bool) (w : World) :
    Calls Tryz.prog 138 #[naddr hi lo six] w (BelowPost w (.string ⟨#[]⟩)) := by
  unfold naddr
  go_enter Tryz.func138, Tryz.ntmps138
  go_wp2_with fail
  go_region_held3 (fun w' => w'.cell? ⟨w.heap.size, 2, none⟩ = some (.bool true) ∧ w'.cell? ⟨w.heap.size, 3, none⟩ = some (.bool six) ∧ w'.cell? ⟨w.heap.size, 4, none⟩ = some (.string ⟨#[]⟩)) (go_keep) (first | (go_at_call 131; refine (z0_any _).mono ?_; rintro e w2 ⟨rfl, hb⟩; have hk := one_kept hb; obtain ⟨c0, c1, c2, c3, c4⟩ := row5_facts hk.1; have HB := Lib.hid hk.2; clear hk hb))
  go_wp2_with fail
  go_ret
  exact ⟨rfl, HB.out⟩

theorem row_on {w1 w2 : World} {k : Nat} {o : Obj} (hb : Below w1.heap.size w1 w2) (h : w1.heap[k]? = some o) : w2.heap[k]? = some o := by
  rw [hb.block k (by have := (Array.getElem?_eq_some_iff.1 h).1; exact this)]; exact h

theorem is6_any (hi lo : Nat) (w : World) :
    Calls Tryz.prog 166 #[naddr hi lo true] w (BelowPost w (.bool true)) := by
  unfold naddr
  go_enter Tryz.func166, Tryz.ntmps166
  go_wp2_with fail
  go_region_held3 (fun w' => w'.cell? ⟨w.heap.size, 2, none⟩ = some (.bool true) ∧ w'.cell? ⟨w.heap.size, 3, none⟩ = some (.bool true) ∧ w'.cell? ⟨w.heap.size, 4, none⟩ = some (.string ⟨#[]⟩)) (go_keep) (first | (go_at_call 131; refine (z0_any _).mono ?_; rintro e w2 ⟨rfl, hb⟩; have hk := one_kept hb; obtain ⟨c0, c1, c2, c3, c4⟩ := row5_facts hk.1; have HB := Lib.hid hk; clear hk hb) | (go_at_call 132; refine (z4_any _).mono ?_; rintro e w3 ⟨rfl, hb⟩; unfold detail; have hk := row_on hb HB.out.1; obtain ⟨d0, d1, d2, d3, d4⟩ := row5_facts hk; have HB3 := Lib.hid (below_tr HB.out.2 hb); clear hk hb))
  clear c0 c1 c2 c3 c4 d0 d1 d2 d3 d4 HB
  go_wp2_with fail
  go_ret
  exact ⟨ret_bool rfl, HB3.out⟩

/-- Without a zone an address of sixteen bytes stays as it is. -/
theorem withZone_any (hi lo : Nat) (w : World) :
    Calls Tryz.prog 184 #[naddr hi lo true, .string ⟨#[]⟩] w (BelowPost w (naddr hi lo true)) := by
  have H6 := Lib.hid (fun w => is6_any hi lo w)
  unfold naddr at H6 ⊢
  go_enter Tryz.func184, Tryz.ntmps184
  go_wp2_with fail
  refine (H6.out _).mono ?_
  rintro e w2 ⟨rfl, hb⟩
  have hk := two_kept' hb
  obtain ⟨q0, q1, q2, q3, q4, f0, f1, f2, f3, f4⟩ := nz5_facts hk.2.1
  obtain ⟨c0, c1, c2, c3, c4⟩ := row5_facts hk.1
  have HK := Lib.hid hk
  have z2 : w2.frozen? ⟨w.heap.size, 2, none⟩ = false := frozen_of_row w2 _ 2 _ _ hk.1
  have z3 : w2.frozen? ⟨w.heap.size, 3, none⟩ = false := frozen_of_row w2 _ 3 _ _ hk.1
  have z4 : w2.frozen? ⟨w.heap.size, 4, none⟩ = false := frozen_of_row w2 _ 4 _ _ hk.1
  clear hk hb
  go_wp2_with fail
  refine (z6noz_any _).mono ?_
  rintro e w3 ⟨rfl, hb⟩
  have hr := row_on hb HK.out.1
  have hr2 := row_on hb HK.out.2.1
  obtain ⟨q0, q1, q2, q3, q4, f0, f1, f2, f3, f4⟩ := nz5_facts hr2
  obtain ⟨c0, c1, c2, c3, c4⟩ := row5_facts hr
  have z2 : w3.frozen? ⟨w.heap.size, 2, none⟩ = false := frozen_of_row w3 _ 2 _ _ hr
  have z3 : w3.frozen? ⟨w.heap.size, 3, none⟩ = false := frozen_of_row w3 _ 3 _ _ hr
  have z4 : w3.frozen? ⟨w.heap.size, 4, none⟩ = false := frozen_of_row w3 _ 4 _ _ hr
  have HB := Lib.hid (below_tr HK.out.2.2 hb)
  clear hr hr2 hb
  unfold detail
  go_wp2_with fail
  refine bodyPost_ret (v := naddr hi lo true) (by simp [results, Tryz.results184, go_sem, naddr, q0, q1, q2, q3, q4]) rfl ⟨rfl, ?_⟩
  repeat refine Below.setCell ?_ (by simp) _
  exact HB.out

end Go.Proofs.YtnehofekgnbelaaGreatDoor

/-
  netip: bePutUint64.
-/
namespace Go.Proofs.YtnehofekgnbelaaGreatDoor
open Go.RowKit
set_option linter.unusedVariables false
set_option maxRecDepth 100000
set_option maxHeartbeats 1000000

structure RowRel (w : World) (B : Nat) (T : TypeId) (cs : Array Value) (wr : World) : Prop where
  row : wr.heap[B]? = some (.cells cs T (0, 0))
  below : ∀ w0 : World, Below w0.heap.size w0 w → w0.heap.size ≤ B → Below w0.heap.size w0 wr
  other : ∀ k, k ≠ B → wr.heap[k]? = w.heap[k]?
/-- The k-th of eight bytes of a number. -/
def bt (v k : Nat) : Value := .int .u8 ((v / 256 ^ (7 - k) % 256 : Nat) : Int)
def put8 (cs : Array Value) (off v : Nat) : Nat → Array Value
  | 0 => cs
  | k + 1 => (put8 cs off v k).setIfInBounds (off + k) (bt v k)
theorem put8_size (cs : Array Value) (off v k : Nat) : (put8 cs off v k).size = cs.size := by
  induction k with
  | zero => rfl
  | succ k ih => simp [put8, ih]
theorem RowRel.next {w wr : World} {B : Nat} {T : TypeId} {cs : Array Value} {off v k o : Nat} {x : Value} (h : RowRel w B T (put8 cs off v k) wr) (ho : o = off + k) (hx : x = bt v k) :
    RowRel w B T (put8 cs off v (k + 1)) (wr.setCell ⟨B, o, none⟩ x) := by
  subst ho hx
  refine ⟨?_, fun w0 h0 hB => (h.below w0 h0 hB).setCell hB _, fun j hj => by rw [Below.heap_setCell _ _ _ _ hj]; exact h.other j hj⟩
  exact heap_setCell_same wr B (off + k) _ T _ h.row
theorem row_cell {w wr : World} {B : Nat} {T : TypeId} {cs : Array Value} (h : RowRel w B T cs wr) (i : Nat) (hi : i < cs.size) : ∃ x, wr.cell? ⟨B, i, none⟩ = some x :=
  ⟨cs[i], by rw [cell_of_row wr B i cs T (0, 0) h.row]; simp [hi]⟩

theorem put_byte0 (v : Nat) (hv : v < 18446744073709551616) : Value.int .u8 ((v : Int) / 72057594037927936) = bt v 0 := by
  unfold bt
  have e : (256 : Nat) ^ (7 - 0) = 72057594037927936 := by decide
  rw [e]
  congr 1 <;> omega
theorem put_byte1 (v : Nat) (hv : v < 18446744073709551616) : Value.int .u8 ((v : Int) / 281474976710656 % 256) = bt v 1 := by
  unfold bt
  have e : (256 : Nat) ^ (7 - 1) = 281474976710656 := by decide
  rw [e]
  congr 1 <;> omega
theorem put_byte2 (v : Nat) (hv : v < 18446744073709551616) : Value.int .u8 ((v : Int) / 1099511627776 % 256) = bt v 2 := by
  unfold bt
  have e : (256 : Nat) ^ (7 - 2) = 1099511627776 := by decide
  rw [e]
  congr 1 <;> omega
theorem put_byte3 (v : Nat) (hv : v < 18446744073709551616) : Value.int .u8 ((v : Int) / 4294967296 % 256) = bt v 3 := by
  unfold bt
  have e : (256 : Nat) ^ (7 - 3) = 4294967296 := by decide
  rw [e]
  congr 1 <;> omega
theorem put_byte4 (v : Nat) (hv : v < 18446744073709551616) : Value.int .u8 ((v : Int) / 16777216 % 256) = bt v 4 := by
  unfold bt
  have e : (256 : Nat) ^ (7 - 4) = 16777216 := by decide
  rw [e]
  congr 1 <;> omega
theorem put_byte5 (v : Nat) (hv : v < 18446744073709551616) : Value.int .u8 ((v : Int) / 65536 % 256) = bt v 5 := by
  unfold bt
  have e : (256 : Nat) ^ (7 - 5) = 65536 := by decide
  rw [e]
  congr 1 <;> omega
theorem put_byte6 (v : Nat) (hv : v < 18446744073709551616) : Value.int .u8 ((v : Int) / 256 % 256) = bt v 6 := by
  unfold bt
  have e : (256 : Nat) ^ (7 - 6) = 256 := by decide
  rw [e]
  congr 1 <;> omega
theorem put_byte7 (v : Nat) (hv : v < 18446744073709551616) : Value.int .u8 ((v : Int) % 256) = bt v 7 := by
  unfold bt
  have e : (256 : Nat) ^ (7 - 7) = 1 := by decide
  rw [e]
  congr 1 <;> omega
attribute [irreducible] bt

theorem bePut_any (B off v cap : Nat) (T : TypeId) (cs : Array Value) (w : World) (hrow : w.heap[B]? = some (.cells cs T (0, 0))) (hv : v < 18446744073709551616) (ho : off + 8 ≤ cs.size) (hcap : 8 ≤ cap) (hcm : cap ≤ 1000) (hoff : off ≤ 1000) :
    Calls Tryz.prog 172 #[.slice (some ⟨B, off, none⟩) 8 cap, .int .u64 v] w (fun e w' => e = .returned (.tuple #[]) ∧ RowRel w B T (put8 cs off v 8) w') := by
  have hr0 : RowRel w B T (put8 cs off v 0) w := ⟨hrow, fun w0 h0 _ => h0, fun k _ => rfl⟩
  obtain ⟨x7, c7⟩ := row_cell hr0 (off + 7) (by rw [put8_size]; omega)
  have HR0 := Lib.hid hr0
  clear hr0 hrow
  go_enter Tryz.func172, Tryz.ntmps172
  go_wp2_with fail
  go_loopw [4] (fun i wr => ∃ k : Nat, k ≤ 8 ∧ i = .int .i64 k ∧ Hid (RowRel w B T (put8 cs off v k) wr)) (fun i _ => 8 - (intOf i).toNat)
  case atStart => exact ⟨0, by omega, rfl, HR0.out⟩
  case round =>
    obtain ⟨k, hk, rfl, hr⟩ := hrel
    by_cases h8 : k = 8
    · subst h8
      go_wp2_with fail
      go_end0
      exact ⟨rfl, hr.out⟩
    · obtain ⟨x, ck⟩ := row_cell hr.out (off + k) (by rw [put8_size]; omega)
      have zk : wr.frozen? ⟨B, off + k, none⟩ = false := frozen_of_row wr _ _ _ _ hr.out.row
      obtain rfl | rfl | rfl | rfl | rfl | rfl | rfl | rfl : k = 0 ∨ k = 1 ∨ k = 2 ∨ k = 3 ∨ k = 4 ∨ k = 5 ∨ k = 6 ∨ k = 7 := by omega
      · simp only [Nat.add_zero] at ck zk
        go_wp2_with fail
        go_roundw
        case rel => exact ⟨1, by omega, rfl, hr.out.next rfl (put_byte0 v hv)⟩
        case measure => simp [intOf]
      · go_wp2_with fail
        go_roundw
        case rel => exact ⟨2, by omega, rfl, hr.out.next rfl (put_byte1 v hv)⟩
        case measure => simp [intOf]
      · go_wp2_with fail
        go_roundw
        case rel => exact ⟨3, by omega, rfl, hr.out.next rfl (put_byte2 v hv)⟩
        case measure => simp [intOf]
      · go_wp2_with fail
        go_roundw
        case rel => exact ⟨4, by omega, rfl, hr.out.next rfl (put_byte3 v hv)⟩
        case measure => simp [intOf]
      · go_wp2_with fail
        go_roundw
        case rel => exact ⟨5, by omega, rfl, hr.out.next rfl (put_byte4 v hv)⟩
        case measure => simp [intOf]
      · go_wp2_with fail
        go_roundw
        case rel => exact ⟨6, by omega, rfl, hr.out.next rfl (put_byte5 v hv)⟩
        case measure => simp [intOf]
      · go_wp2_with fail
        go_roundw
        case rel => exact ⟨7, by omega, rfl, hr.out.next rfl (put_byte6 v hv)⟩
        case measure => simp [intOf]
      · go_wp2_with fail
        go_roundw
        case rel => exact ⟨8, by omega, rfl, hr.out.next rfl (put_byte7 v hv)⟩
        case measure => simp [intOf]

end Go.Proofs.YtnehofekgnbelaaGreatDoor

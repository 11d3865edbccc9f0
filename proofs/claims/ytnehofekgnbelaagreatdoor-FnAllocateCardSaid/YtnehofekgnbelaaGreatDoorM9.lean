/-
  Texts put together: As16, PIP, PIP2, PIP3, Plain, Hex, Size.
-/
import Derived.Test.YtnehofekgnbelaaGreatDoorM8
import Derived.Laws.Bits64b
import Derived.Test.YtnehofekgnbelaaGreatDoorM3

/-
  netip.Addr's As16; net.parseIP, ParseIP.
-/
namespace Go.Proofs.YtnehofekgnbelaaGreatDoor
open Go.RowKit
set_option linter.unusedVariables false
set_option maxRecDepth 100000
set_option maxHeartbeats 1000000

/-- Sixteen cells of two halves. -/
def z16 : Array Value := #[.int .u8 0, .int .u8 0, .int .u8 0, .int .u8 0, .int .u8 0, .int .u8 0, .int .u8 0, .int .u8 0, .int .u8 0, .int .u8 0, .int .u8 0, .int .u8 0, .int .u8 0, .int .u8 0, .int .u8 0, .int .u8 0]
theorem row16_facts {w : World} {B : Nat} {T : TypeId} {a0 a1 a2 a3 a4 a5 a6 a7 a8 a9 a10 a11 a12 a13 a14 a15 : Value} (h : w.heap[B]? = some (.cells #[a0, a1, a2, a3, a4, a5, a6, a7, a8, a9, a10, a11, a12, a13, a14, a15] T (0, 0))) :
    w.cell? ⟨B, 0, none⟩ = some a0 ∧ w.cell? ⟨B, 1, none⟩ = some a1 ∧ w.cell? ⟨B, 2, none⟩ = some a2 ∧ w.cell? ⟨B, 3, none⟩ = some a3 ∧ w.cell? ⟨B, 4, none⟩ = some a4 ∧ w.cell? ⟨B, 5, none⟩ = some a5 ∧ w.cell? ⟨B, 6, none⟩ = some a6 ∧ w.cell? ⟨B, 7, none⟩ = some a7 ∧ w.cell? ⟨B, 8, none⟩ = some a8 ∧ w.cell? ⟨B, 9, none⟩ = some a9 ∧ w.cell? ⟨B, 10, none⟩ = some a10 ∧ w.cell? ⟨B, 11, none⟩ = some a11 ∧ w.cell? ⟨B, 12, none⟩ = some a12 ∧ w.cell? ⟨B, 13, none⟩ = some a13 ∧ w.cell? ⟨B, 14, none⟩ = some a14 ∧ w.cell? ⟨B, 15, none⟩ = some a15 ∧ w.frozen? ⟨B, 0, none⟩ = false ∧ w.frozen? ⟨B, 1, none⟩ = false ∧ w.frozen? ⟨B, 2, none⟩ = false ∧ w.frozen? ⟨B, 3, none⟩ = false ∧ w.frozen? ⟨B, 4, none⟩ = false ∧ w.frozen? ⟨B, 5, none⟩ = false ∧ w.frozen? ⟨B, 6, none⟩ = false ∧ w.frozen? ⟨B, 7, none⟩ = false ∧ w.frozen? ⟨B, 8, none⟩ = false ∧ w.frozen? ⟨B, 9, none⟩ = false ∧ w.frozen? ⟨B, 10, none⟩ = false ∧ w.frozen? ⟨B, 11, none⟩ = false ∧ w.frozen? ⟨B, 12, none⟩ = false ∧ w.frozen? ⟨B, 13, none⟩ = false ∧ w.frozen? ⟨B, 14, none⟩ = false ∧ w.frozen? ⟨B, 15, none⟩ = false :=
  ⟨cell_of_row w _ 0 _ _ _ h, cell_of_row w _ 1 _ _ _ h, cell_of_row w _ 2 _ _ _ h, cell_of_row w _ 3 _ _ _ h, cell_of_row w _ 4 _ _ _ h, cell_of_row w _ 5 _ _ _ h, cell_of_row w _ 6 _ _ _ h, cell_of_row w _ 7 _ _ _ h, cell_of_row w _ 8 _ _ _ h, cell_of_row w _ 9 _ _ _ h, cell_of_row w _ 10 _ _ _ h, cell_of_row w _ 11 _ _ _ h, cell_of_row w _ 12 _ _ _ h, cell_of_row w _ 13 _ _ _ h, cell_of_row w _ 14 _ _ _ h, cell_of_row w _ 15 _ _ _ h, frozen_of_row w _ 0 _ _ h, frozen_of_row w _ 1 _ _ h, frozen_of_row w _ 2 _ _ h, frozen_of_row w _ 3 _ _ h, frozen_of_row w _ 4 _ _ h, frozen_of_row w _ 5 _ _ h, frozen_of_row w _ 6 _ _ h, frozen_of_row w _ 7 _ _ h, frozen_of_row w _ 8 _ _ h, frozen_of_row w _ 9 _ _ h, frozen_of_row w _ 10 _ _ h, frozen_of_row w _ 11 _ _ h, frozen_of_row w _ 12 _ _ h, frozen_of_row w _ 13 _ _ h, frozen_of_row w _ 14 _ _ h, frozen_of_row w _ 15 _ _ h⟩
def as16L (hi lo : Nat) : Array Value := #[bt hi 0, bt hi 1, bt hi 2, bt hi 3, bt hi 4, bt hi 5, bt hi 6, bt hi 7, bt lo 0, bt lo 1, bt lo 2, bt lo 3, bt lo 4, bt lo 5, bt lo 6, bt lo 7]
theorem as16_eq (hi lo : Nat) : put8 (put8 z16 0 hi 8) 8 lo 8 = as16L hi lo := by
  simp [put8, z16, as16L]

theorem bt_nat (v k : Nat) : ∃ n : Nat, bt v k = .int .u8 n := ⟨_, by unfold bt; rfl⟩
theorem put_w (w : World) (o : Obj) (hi : Nat) (h1 : hi < 18446744073709551616) :
    Calls Tryz.prog 172 #[.slice (some ⟨w.heap.size + 1, 0, none⟩) 8 16, .int .u64 hi] ((w.alloc o).alloc (.cells z16 171)).drew
      (fun e w2 => e = .returned (.tuple #[]) ∧ w2.heap[w.heap.size]? = some o ∧ w2.heap[w.heap.size + 1]? = some (.cells (put8 z16 0 hi 8) 171 (0, 0)) ∧ Below w.heap.size w w2) := by
  have hk := two_kept (w := w) (o1 := o) (o2 := .cells z16 171) (Below.refl _ _)
  refine (bePut_any (w.heap.size + 1) 0 hi 16 171 z16 _ hk.2.1 h1 (by decide) (by omega) (by omega) (by omega)).mono ?_
  rintro e w2 ⟨rfl, hr⟩
  exact ⟨rfl, by rw [hr.other _ (by omega)]; exact hk.1, hr.row, hr.below w hk.2.2 (by omega)⟩
theorem put_w2 (w w2 : World) (o : Obj) (cs : Array Value) (hs : 16 ≤ cs.size) (lo : Nat) (h1 : lo < 18446744073709551616) (hb : Below w.heap.size w w2) (hr2 : w2.heap[w.heap.size + 1]? = some (.cells cs 171 (0, 0))) :
    Calls Tryz.prog 172 #[.slice (some ⟨w.heap.size + 1, 8, none⟩) 8 8, .int .u64 lo] w2.drew
      (fun e w3 => e = .returned (.tuple #[]) ∧ w3.heap[w.heap.size + 1]? = some (.cells (put8 cs 8 lo 8) 171 (0, 0)) ∧ Below w.heap.size w w3 ∧ w3.heap[w.heap.size]? = w2.heap[w.heap.size]?) := by
  refine (bePut_any (w.heap.size + 1) 8 lo 8 171 cs w2.drew hr2 h1 (by omega) (by omega) (by omega) (by omega)).mono ?_
  rintro e w3 ⟨rfl, hr⟩
  exact ⟨rfl, hr.row, hr.below w (below_drewN hb 1) (by omega), hr.other _ (by omega)⟩

theorem as16_any (hi lo : Nat) (six : Bool) (w : World) (h1 : hi < 18446744073709551616) (h2 : lo < 18446744073709551616) :
    Calls Tryz.prog 139 #[naddr hi lo six] w (BelowPost w (.agg (as16L hi lo))) := by
  have H1 := Lib.hid (fun o => put_w w o hi h1)
  have H2 := Lib.hid (fun w2 hb hr => put_w2 w w2 (.cells #[] 0) (put8 z16 0 hi 8) (by rw [put8_size]; decide) lo h2 hb hr)
  obtain ⟨n0, e0⟩ := bt_nat hi 0
  obtain ⟨n1, e1⟩ := bt_nat hi 1
  obtain ⟨n2, e2⟩ := bt_nat hi 2
  obtain ⟨n3, e3⟩ := bt_nat hi 3
  obtain ⟨n4, e4⟩ := bt_nat hi 4
  obtain ⟨n5, e5⟩ := bt_nat hi 5
  obtain ⟨n6, e6⟩ := bt_nat hi 6
  obtain ⟨n7, e7⟩ := bt_nat hi 7
  obtain ⟨n8, e8⟩ := bt_nat lo 0
  obtain ⟨n9, e9⟩ := bt_nat lo 1
  obtain ⟨n10, e10⟩ := bt_nat lo 2
  obtain ⟨n11, e11⟩ := bt_nat lo 3
  obtain ⟨n12, e12⟩ := bt_nat lo 4
  obtain ⟨n13, e13⟩ := bt_nat lo 5
  obtain ⟨n14, e14⟩ := bt_nat lo 6
  obtain ⟨n15, e15⟩ := bt_nat lo 7
  have hE := as16_eq hi lo
  have hv : as16L hi lo = #[(.int .u8 n0), (.int .u8 n1), (.int .u8 n2), (.int .u8 n3), (.int .u8 n4), (.int .u8 n5), (.int .u8 n6), (.int .u8 n7), (.int .u8 n8), (.int .u8 n9), (.int .u8 n10), (.int .u8 n11), (.int .u8 n12), (.int .u8 n13), (.int .u8 n14), (.int .u8 n15)] := by
    unfold as16L
    rw [e0, e1, e2, e3, e4, e5, e6, e7, e8, e9, e10, e11, e12, e13, e14, e15]
  rw [hv] at hE ⊢
  have HE := Lib.hid hE
  clear hE hv e0 e1 e2 e3 e4 e5 e6 e7 e8 e9 e10 e11 e12 e13 e14 e15
  unfold naddr
  unfold z16 at H1
  go_enter Tryz.func139, Tryz.ntmps139
  go_wp2_with fail
  go_region_held3 (fun w' => w'.cell? ⟨w.heap.size, 0, none⟩ = some (.int .u64 hi)) (go_keep) (first | (go_at_call 172; refine (H1.out _).mono ?_; rintro e w2 ⟨rfl, hk⟩; obtain ⟨b0, b1, b2, b3, b4⟩ := row5_facts hk.1; have HK := Lib.hid hk; clear hk))
  go_wp2_with fail
  go_region_held3 (fun w' => w'.cell? ⟨w.heap.size, 1, none⟩ = some (.int .u64 lo)) (go_keep) (first | (go_at_call 172; refine (H2.out _ HK.out.2.2 HK.out.2.1).mono ?_; rintro e w3 ⟨rfl, hk⟩; obtain ⟨d0, d1, d2, d3, d4⟩ := row5_facts (hk.2.2.trans HK.out.1); have HK3 := Lib.hid hk; clear hk))
  have hrow := HK3.out.1
  rw [HE.out] at hrow
  have HB3 := Lib.hid HK3.out.2.1
  obtain ⟨c0, c1, c2, c3, c4, c5, c6, c7, c8, c9, c10, c11, c12, c13, c14, c15, f0, f1, f2, f3, f4, f5, f6, f7, f8, f9, f10, f11, f12, f13, f14, f15⟩ := row16_facts hrow
  clear hrow HK3 b0 b1 b2 b3 b4 d0 d1 d2 d3 d4
  go_wp2_with fail
  refine bodyPost_ret (v := .agg #[.int .u8 n0, .int .u8 n1, .int .u8 n2, .int .u8 n3, .int .u8 n4, .int .u8 n5, .int .u8 n6, .int .u8 n7, .int .u8 n8, .int .u8 n9, .int .u8 n10, .int .u8 n11, .int .u8 n12, .int .u8 n13, .int .u8 n14, .int .u8 n15]) (by simp [results, Tryz.results139, go_sem, c0, c1, c2, c3, c4, c5, c6, c7, c8, c9, c10, c11, c12, c13, c14, c15]) rfl ⟨rfl, ?_⟩
  repeat refine Below.setCell ?_ (by simp) _
  exact HB3.out

end Go.Proofs.YtnehofekgnbelaaGreatDoor

/-
  net.parseIP, ParseIP.
-/
namespace Go.Proofs.YtnehofekgnbelaaGreatDoor
open Go.RowKit
set_option linter.unusedVariables false
set_option maxRecDepth 100000
set_option maxHeartbeats 1000000

theorem bt_is (v k b : Nat) (h : v / 256 ^ (7 - k) % 256 = b % 256) : bt v k = u8v (UInt8.ofNat b) := by
  unfold bt u8v
  rw [toNat_ofNat, h]
theorem long_four (N : Nat) (h : N < 4294967296) : as16L 0 (281470681743360 + N) = ((Ad.long ⟨false, N⟩).map u8v).toArray := by
  have z : ∀ k, bt 0 k = u8v 0 := fun k => bt_is 0 k 0 (by simp)
  have l0 : bt (281470681743360 + N) 0 = u8v 0 := bt_is _ 0 0 (show (281470681743360 + N) / 72057594037927936 % 256 = 0 by omega)
  have l1 : bt (281470681743360 + N) 1 = u8v 0 := bt_is _ 1 0 (show (281470681743360 + N) / 281474976710656 % 256 = 0 by omega)
  have l2 : bt (281470681743360 + N) 2 = u8v 255 := bt_is _ 2 255 (show (281470681743360 + N) / 1099511627776 % 256 = 255 by omega)
  have l3 : bt (281470681743360 + N) 3 = u8v 255 := bt_is _ 3 255 (show (281470681743360 + N) / 4294967296 % 256 = 255 by omega)
  have l4 : bt (281470681743360 + N) 4 = u8v (UInt8.ofNat (N / 16777216)) := bt_is _ 4 _ (show (281470681743360 + N) / 16777216 % 256 = N / 16777216 % 256 by omega)
  have l5 : bt (281470681743360 + N) 5 = u8v (UInt8.ofNat (N / 65536)) := bt_is _ 5 _ (show (281470681743360 + N) / 65536 % 256 = N / 65536 % 256 by omega)
  have l6 : bt (281470681743360 + N) 6 = u8v (UInt8.ofNat (N / 256)) := bt_is _ 6 _ (show (281470681743360 + N) / 256 % 256 = N / 256 % 256 by omega)
  have l7 : bt (281470681743360 + N) 7 = u8v (UInt8.ofNat N) := bt_is _ 7 _ (show (281470681743360 + N) / 1 % 256 = N % 256 by omega)
  unfold as16L
  rw [z, z, z, z, z, z, z, z, l0, l1, l2, l3, l4, l5, l6, l7]
  rfl
theorem long_six (n : Nat) (h : n < 65536) : as16L 2306139568115548160 n = ((Ad.long ⟨true, n⟩).map u8v).toArray := by
  have l6 : bt n 6 = u8v (UInt8.ofNat (n / 256)) := bt_is _ 6 _ (show n / 256 % 256 = n / 256 % 256 from rfl)
  have l7 : bt n 7 = u8v (UInt8.ofNat n) := bt_is _ 7 _ (show n / 1 % 256 = n % 256 by omega)
  have z0 : bt n 0 = u8v 0 := bt_is _ 0 0 (show n / 72057594037927936 % 256 = 0 by omega)
  have z1 : bt n 1 = u8v 0 := bt_is _ 1 0 (show n / 281474976710656 % 256 = 0 by omega)
  have z2 : bt n 2 = u8v 0 := bt_is _ 2 0 (show n / 1099511627776 % 256 = 0 by omega)
  have z3 : bt n 3 = u8v 0 := bt_is _ 3 0 (show n / 4294967296 % 256 = 0 by omega)
  have z4 : bt n 4 = u8v 0 := bt_is _ 4 0 (show n / 16777216 % 256 = 0 by omega)
  have z5 : bt n 5 = u8v 0 := bt_is _ 5 0 (show n / 65536 % 256 = 0 by omega)
  have h0 : bt 2306139568115548160 0 = u8v 32 := bt_is _ 0 32 (by decide)
  have h1 : bt 2306139568115548160 1 = u8v 1 := bt_is _ 1 1 (by decide)
  have h2 : bt 2306139568115548160 2 = u8v 13 := bt_is _ 2 13 (by decide)
  have h3 : bt 2306139568115548160 3 = u8v 184 := bt_is _ 3 184 (by decide)
  have h4 : bt 2306139568115548160 4 = u8v 0 := bt_is _ 4 0 (by decide)
  have h5 : bt 2306139568115548160 5 = u8v 0 := bt_is _ 5 0 (by decide)
  have h6 : bt 2306139568115548160 6 = u8v 0 := bt_is _ 6 0 (by decide)
  have h7 : bt 2306139568115548160 7 = u8v 0 := bt_is _ 7 0 (by decide)
  unfold as16L
  rw [h0, h1, h2, h3, h4, h5, h6, h7, z0, z1, z2, z3, z4, z5, l6, l7]
  rfl

end Go.Proofs.YtnehofekgnbelaaGreatDoor

/-
  net.parseIP.
-/
namespace Go.Proofs.YtnehofekgnbelaaGreatDoor
open Go.RowKit
set_option linter.unusedVariables false
set_option maxRecDepth 100000
set_option maxHeartbeats 1000000

theorem parseIP_any (s : ByteArray) (hi lo : Nat) (six : Bool) (w : World) (h1 : hi < 18446744073709551616) (h2 : lo < 18446744073709551616)
    (hp : ∀ w, Calls Tryz.prog 137 #[.string s] w (ParsedPost w (naddr hi lo six))) :
    Calls Tryz.prog 95 #[.string s] w (BelowPost w (.tuple #[.agg (as16L hi lo), .bool true])) := by
  obtain ⟨n0, e0⟩ := bt_nat hi 0
  obtain ⟨n1, e1⟩ := bt_nat hi 1
  obtain ⟨n2, e2⟩ := bt_nat hi 2
  obtain ⟨n3, e3⟩ := bt_nat hi 3
  obtain ⟨n4, e4⟩ := bt_nat hi 4
  obtain ⟨n5, e5⟩ := bt_nat hi 5
  obtain ⟨n6, e6⟩ := bt_nat hi 6
  obtain ⟨n7, e7⟩ := bt_nat hi 7
  obtain ⟨n8, e8⟩ := bt_nat lo 0
  obtain ⟨n9, e9⟩ := bt_nat lo 1
  obtain ⟨n10, e10⟩ := bt_nat lo 2
  obtain ⟨n11, e11⟩ := bt_nat lo 3
  obtain ⟨n12, e12⟩ := bt_nat lo 4
  obtain ⟨n13, e13⟩ := bt_nat lo 5
  obtain ⟨n14, e14⟩ := bt_nat lo 6
  obtain ⟨n15, e15⟩ := bt_nat lo 7
  have hv : as16L hi lo = #[(.int .u8 n0), (.int .u8 n1), (.int .u8 n2), (.int .u8 n3), (.int .u8 n4), (.int .u8 n5), (.int .u8 n6), (.int .u8 n7), (.int .u8 n8), (.int .u8 n9), (.int .u8 n10), (.int .u8 n11), (.int .u8 n12), (.int .u8 n13), (.int .u8 n14), (.int .u8 n15)] := by
    unfold as16L
    rw [e0, e1, e2, e3, e4, e5, e6, e7, e8, e9, e10, e11, e12, e13, e14, e15]
  have HP := Lib.hid hp
  have HZ := Lib.hid (fun w => zone_any hi lo six w)
  have HA := Lib.hid (fun w => as16_any hi lo six w h1 h2)
  rw [hv] at HA ⊢
  clear hv hp h1 h2 e0 e1 e2 e3 e4 e5 e6 e7 e8 e9 e10 e11 e12 e13 e14 e15
  unfold naddr at HZ HA
  go_enter Tryz.func95, Tryz.ntmps95
  go_wp2_with fail
  refine (HP.out _).mono ?_
  rintro e w2 ⟨rfl, hb⟩
  unfold naddr
  have hr2 := row_on hb (heap_alloc_new w _)
  have HR2 := Lib.hid hr2
  have HB2 := Lib.hid (below_tr ((Below.refl w.heap.size w).alloc (Nat.le_refl _) _) hb)
  clear hr2 hb
  go_wp2_with fail
  refine (HZ.out _).mono ?_
  rintro e w3 ⟨rfl, hb⟩
  have hbox := row_on hb (heap_alloc_new w2 _)
  have hres := row_on hb (show (w2.alloc _).heap[w.heap.size]? = _ from (heap_alloc_old w2 _ (Array.getElem?_eq_some_iff.1 HR2.out).1).trans HR2.out)
  obtain ⟨b0, b1, b2, b3, b4⟩ := row5_facts hbox
  have HR3 := Lib.hid hres
  have HB3 := Lib.hid (below_tr (HB2.out.alloc HB2.out.size _) hb)
  clear hbox hres hb
  go_wp2_with fail
  refine (HA.out _).mono ?_
  rintro e w4 ⟨rfl, hb⟩
  have hrow := row_on hb HR3.out
  obtain ⟨c0, c1, c2, c3, c4, c5, c6, c7, c8, c9, c10, c11, c12, c13, c14, c15, f0, f1, f2, f3, f4, f5, f6, f7, f8, f9, f10, f11, f12, f13, f14, f15⟩ := row16_facts hrow
  have HB4 := Lib.hid (below_tr HB3.out hb)
  clear hrow hb b0 b1 b2 b3 b4
  go_wp2_with fail
  refine bodyPost_ret (v := .tuple #[.agg #[(.int .u8 n0), (.int .u8 n1), (.int .u8 n2), (.int .u8 n3), (.int .u8 n4), (.int .u8 n5), (.int .u8 n6), (.int .u8 n7), (.int .u8 n8), (.int .u8 n9), (.int .u8 n10), (.int .u8 n11), (.int .u8 n12), (.int .u8 n13), (.int .u8 n14), (.int .u8 n15)], .bool true]) (by simp [results, Tryz.results95, go_sem, c0, c1, c2, c3, c4, c5, c6, c7, c8, c9, c10, c11, c12, c13, c14, c15]) rfl ⟨rfl, ?_⟩
  repeat refine Below.setCell ?_ (by simp) _
  exact HB4.out

end Go.Proofs.YtnehofekgnbelaaGreatDoor

/-
  net.ParseIP.
-/
namespace Go.Proofs.YtnehofekgnbelaaGreatDoor
open Go.RowKit
set_option linter.unusedVariables false
set_option maxRecDepth 100000
set_option maxHeartbeats 1000000

def IPPost (w : World) (L : List UInt8) (e : Ending) (w' : World) : Prop := ∃ v, e = .returned v ∧ IPAt w' v L ∧ Below w.heap.size w w'

theorem ParseIP_any (s : ByteArray) (hi lo : Nat) (six : Bool) (L : List UInt8) (w : World) (h1 : hi < 18446744073709551616) (h2 : lo < 18446744073709551616)
    (hl : L.length = 16) (hL : as16L hi lo = (L.map u8v).toArray)
    (hp : ∀ w, Calls Tryz.prog 137 #[.string s] w (ParsedPost w (naddr hi lo six))) :
    Calls Tryz.prog 66 #[.string s] w (IPPost w L) := by
  have HP := Lib.hid (fun w => parseIP_any s hi lo six w h1 h2 hp)
  obtain ⟨n0, e0⟩ := bt_nat hi 0
  obtain ⟨n1, e1⟩ := bt_nat hi 1
  obtain ⟨n2, e2⟩ := bt_nat hi 2
  obtain ⟨n3, e3⟩ := bt_nat hi 3
  obtain ⟨n4, e4⟩ := bt_nat hi 4
  obtain ⟨n5, e5⟩ := bt_nat hi 5
  obtain ⟨n6, e6⟩ := bt_nat hi 6
  obtain ⟨n7, e7⟩ := bt_nat hi 7
  obtain ⟨n8, e8⟩ := bt_nat lo 0
  obtain ⟨n9, e9⟩ := bt_nat lo 1
  obtain ⟨n10, e10⟩ := bt_nat lo 2
  obtain ⟨n11, e11⟩ := bt_nat lo 3
  obtain ⟨n12, e12⟩ := bt_nat lo 4
  obtain ⟨n13, e13⟩ := bt_nat lo 5
  obtain ⟨n14, e14⟩ := bt_nat lo 6
  obtain ⟨n15, e15⟩ := bt_nat lo 7
  have hv : as16L hi lo = #[(.int .u8 n0), (.int .u8 n1), (.int .u8 n2), (.int .u8 n3), (.int .u8 n4), (.int .u8 n5), (.int .u8 n6), (.int .u8 n7), (.int .u8 n8), (.int .u8 n9), (.int .u8 n10), (.int .u8 n11), (.int .u8 n12), (.int .u8 n13), (.int .u8 n14), (.int .u8 n15)] := by
    unfold as16L
    rw [e0, e1, e2, e3, e4, e5, e6, e7, e8, e9, e10, e11, e12, e13, e14, e15]
  rw [hv] at HP hL
  have HL := Lib.hid hL
  have HN := Lib.hid hl
  clear hv hp h1 h2 hL hl e0 e1 e2 e3 e4 e5 e6 e7 e8 e9 e10 e11 e12 e13 e14 e15
  go_enter Tryz.func66, Tryz.ntmps66
  go_wp2_with fail
  refine (HP.out _).mono ?_
  rintro e w2 ⟨rfl, hb⟩
  have HB := Lib.hid hb
  clear hb
  go_wp2_with fail
  go_ret
  refine ⟨_, rfl, ip_of_row (heap_alloc_new w2 _) 0 16 16 L HN.out (by omega) (by omega) (by omega) fun i hi => ?_, HB.out.alloc HB.out.size _⟩
  rw [HL.out, Nat.zero_add]
  have h := HN.out
  simp [u8v, h, hi, List.getD_eq_getElem?_getD]

end Go.Proofs.YtnehofekgnbelaaGreatDoor

/-
  impl.plain, impl.addressOf of four numbers.
-/
namespace Go.Proofs.YtnehofekgnbelaaGreatDoor
open Go.RowKit
set_option linter.unusedVariables false
set_option maxRecDepth 100000
set_option maxHeartbeats 1000000

theorem plain_four (v : Value) (n : Nat) (w : World) (h : LongAt w v ⟨false, n⟩) :
    Calls Tryz.prog 67 #[v] w (fun e w' => e = .returned (.bool true) ∧ w = w') := by
  have hnil := fun w a n c => run_neq_slice_nil_any (P := Tryz.prog) w 67 5 a n c 0 0 Tryz.underlying67
  have ht := to4_any v ⟨false, n⟩ w (.inl h)
  have HT := Lib.hid ht
  clear ht h
  go_enter Tryz.func67, Tryz.ntmps67
  go_wp2_with fail
  refine HT.out.mono ?_
  rintro e w' ⟨v', rfl, hv, rfl⟩
  have hv2 : BriefAt w v' ⟨false, n⟩ := hv
  obtain ⟨b, off, cap, rfl, _⟩ := BriefAt.out hv2
  clear hv hv2
  go_wp2_with fail
  go_ret
  exact ⟨rfl, rfl⟩

theorem quad_lt (k : Nat) : ∀ (l : List UInt8) (n N : Nat), quadN k l n = some N → N < 4294967296 := by
  induction k with
  | zero =>
    intro l n N h
    have := (quad_ok h).2.2
    rw [if_pos rfl] at this
    rw [← Option.some.inj this]
    exact Nat.mod_lt _ (by decide)
  | succ k ih =>
    intro l n N h
    have := (quad_ok h).2.2
    rw [if_neg (by omega)] at this
    exact ih _ _ _ this

theorem parseIP_four (s : ByteArray) (N : Nat) (w : World) (hq : quadN 3 (bl s) 0 = some N) (hs : s.size ≤ 1000) :
    Calls Tryz.prog 66 #[.string s] w (IPPost w (Ad.long ⟨false, N⟩)) :=
  ParseIP_any s 0 (281470681743360 + N) false _ w (by decide) (by have := quad_lt 3 _ _ _ hq; omega) (Ad.long_length _) (long_four N (quad_lt 3 _ _ _ hq)) (fun w => parseAddr_four s N w hq hs)

theorem addressOf_four (s : ByteArray) (N : Nat) (w : World) (hq : quadN 3 (bl s) 0 = some N) (hs : s.size ≤ 1000) :
    Calls Tryz.prog 39 #[.string s] w (IPPost w (Ad.long ⟨false, N⟩)) := by
  have hnil := fun w a n c => Lib.run_eql_slice_nil (P := Tryz.prog) w 67 5 a n c 0 0 Tryz.underlying67
  have HP := Lib.hid (parseIP_four s N w hq hs)
  clear hq
  go_enter Tryz.func39, Tryz.ntmps39
  go_wp2_with fail
  refine HP.out.mono ?_
  rintro e w' ⟨v, rfl, hv, hb⟩
  have HV := Lib.hid hv
  have HB := Lib.hid hb
  have ho := IPAt.out hv
  rw [Ad.long_length] at ho
  obtain ⟨b, off, cap, rfl, _⟩ := ho
  clear hv hb
  go_wp2_with fail
  refine (plain_four _ N _ HV.out).mono ?_
  rintro e w2 ⟨rfl, rfl⟩
  go_wp2_with fail
  go_ret
  exact ⟨_, rfl, HV.out, HB.out⟩

end Go.Proofs.YtnehofekgnbelaaGreatDoor

/-
  Sixteens' digits: plain facts.
-/
namespace Go.Proofs.YtnehofekgnbelaaGreatDoor
open Go.RowKit
set_option linter.unusedVariables false
set_option maxRecDepth 100000
set_option maxHeartbeats 1000000

theorem hexVal_dig (d : Nat) (h : d < 16) : hexVal (hexDig d) = some d := by
  have : ∀ d : Fin 16, hexVal (hexDig d.val) = some d.val := by decide
  exact this ⟨d, h⟩
theorem hexN_append (l m : List UInt8) : ∀ n, hexN (l ++ m) n = (hexN l n).bind (hexN m) := by
  induction l with
  | nil => intro n; rfl
  | cons x l ih =>
    intro n
    simp only [List.cons_append, hexN]
    cases hexVal x with
    | none => rfl
    | some d => exact ih _
theorem hexN_hexL (n : Nat) : n < 4294967296 → hexN (hexL n) 0 = some n := by
  induction n using Nat.strongRecOn with
  | _ n ih =>
    intro hn
    by_cases h0 : 0 < n
    · rw [hexL_of h0, hexN_append, ih (n / 16) (by omega) (by omega)]
      simp only [Option.bind, hexN, hexVal_dig (n % 16) (by omega)]
      congr 1
      omega
    · obtain rfl : n = 0 := by omega
      rw [hexL_zero]; rfl
/-- What read tells of sixteen bytes: the digits are those of the number. -/
theorem readL_true {l : List UInt8} {a : Ad} (h : readL l = some a) (h6 : a.six = true) : l = preL ++ hexL a.n ∧ (hexL a.n).length ≤ 4 := by
  unfold readL at h
  split at h
  · cases hx : hexN (l.drop 10) 0 with
    | none => rw [hx] at h; cases h
    | some n =>
      rw [hx] at h
      simp only [Option.bind] at h
      split at h
      · rename_i hc
        obtain rfl := Option.some.inj h
        refine ⟨hc.2.symm, ?_⟩
        have h1 := congrArg List.length hc.2
        rw [List.length_append] at h1
        have h2 := hc.1
        have h3 : preL.length = 10 := rfl
        simp only
        omega
      · cases h
  · cases hx : quadN 3 l 0 with
    | none => rw [hx] at h; cases h
    | some n => rw [hx] at h; obtain rfl := Option.some.inj h; cases h6
theorem readL_false {l : List UInt8} {a : Ad} (h : readL l = some a) (h6 : a.six = false) : quadN 3 l 0 = some a.n := by
  unfold readL at h
  split at h
  · cases hx : hexN (l.drop 10) 0 with
    | none => rw [hx] at h; cases h
    | some n =>
      rw [hx] at h
      simp only [Option.bind] at h
      split at h
      · obtain rfl := Option.some.inj h; cases h6
      · cases h
  · cases hx : quadN 3 l 0 with
    | none => rw [hx] at h; cases h
    | some n => rw [hx] at h; obtain rfl := Option.some.inj h; rfl

theorem hexL_lt (n : Nat) : n < 16 ^ (hexL n).length := by
  induction n using Nat.strongRecOn with
  | _ n ih =>
    by_cases h0 : 0 < n
    · have := ih (n / 16) (by omega)
      rw [hexL_of h0, List.length_append, show [hexDig (n % 16)].length = 1 from rfl, Nat.pow_succ]
      omega
    · obtain rfl : n = 0 := by omega
      rw [hexL_zero]; decide
theorem readL_ok {l : List UInt8} {a : Ad} (h : readL l = some a) : a.ok := by
  unfold Ad.ok
  cases h6 : a.six with
  | true =>
    have h1 := (readL_true h h6).2
    have h2 := hexL_lt a.n
    have h3 : (16 : Nat) ^ (hexL a.n).length ≤ 16 ^ 4 := Nat.pow_le_pow_right (by decide) h1
    have h4 : (16 : Nat) ^ 4 = 65536 := by decide
    simp only [if_true]
    omega
  | false =>
    have := quad_lt 3 _ _ _ (readL_false h h6)
    simpa using this

end Go.Proofs.YtnehofekgnbelaaGreatDoor

/-
  net's simpleMaskLength, IPMask.Size, errors.New.
-/
namespace Go.Proofs.YtnehofekgnbelaaGreatDoor
open Go.RowKit
set_option linter.unusedVariables false
set_option maxRecDepth 100000
set_option maxHeartbeats 1000000

theorem int_eq8 {k : IntKind} {a b : Int} (h : a = b) : Value.int k a = Value.int k b := by rw [h]

theorem newError_any (s : ByteArray) (w : World) :
    Calls Tryz.prog 81 #[.string s] w (BelowPost w (.iface 203 (.pointer (some ⟨w.heap.size, 0, none⟩)))) := by
  go_enter Tryz.func81, Tryz.ntmps81
  go_wp2_with fail
  go_ret
  exact ⟨rfl, (Below.refl w.heap.size w).alloc (Nat.le_refl _) _⟩

theorem mb_top (q : Nat) (h : q ≤ 8) : bits .and .u8 ((mb q).toNat : Int) 128 = if 0 < q then 128 else 0 := by
  have key : ∀ q : Fin 9, bits .and .u8 ((mb q.val).toNat : Int) 128 = if 0 < q.val then 128 else 0 := by decide +kernel
  exact key ⟨q, by omega⟩
theorem mb_shift (q : Nat) (h : q + 1 ≤ 8) : IntKind.u8.wrap (((mb (q + 1)).toNat : Int) * 2) = ((mb q).toNat : Int) := by
  have key : ∀ q : Fin 8, IntKind.u8.wrap (((mb (q.val + 1)).toNat : Int) * 2) = ((mb q.val).toNat : Int) := by decide +kernel
  exact key ⟨q, by omega⟩
theorem mb_lt (q : Nat) (h : q + 1 ≤ 8) : (mb q).toNat < (mb (q + 1)).toNat := by
  have key : ∀ q : Fin 8, (mb q.val).toNat < (mb (q.val + 1)).toNat := by decide +kernel
  exact key ⟨q, by omega⟩
theorem mb_ne (q : Nat) (h : q < 8) : (mb q).toNat ≠ 255 := by
  have key : ∀ q : Fin 8, (mb q.val).toNat ≠ 255 := by decide +kernel
  exact key ⟨q, h⟩

theorem maskLength_any (b o cap l k : Nat) (w : World) (hl : l ≤ 16) (hk : k ≤ 8 * l) (hcap : l ≤ cap) (hcm : cap ≤ 9223372036854775807)
    (hc : ∀ i, i < l → w.cell? ⟨b, o + i, none⟩ = some (.int .u8 (mb (k - 8 * i)).toNat)) :
    Calls Tryz.prog 54 #[.slice (some ⟨b, o, none⟩) l cap] w (fun e w' => e = .returned (.int .i64 k) ∧ w = w') := by
  have HC := Lib.hid hc
  clear hc
  go_enter Tryz.func54, Tryz.ntmps54
  go_wp2_with fail
  go_loop [3, 8] (fun n i => ∃ j : Nat, j ≤ l ∧ i = .int .i64 j ∧ n = .int .i64 ((8 * j : Nat) : Int) ∧ 8 * j ≤ k) (fun _ i => l - (intOf i).toNat)
  case atStart => exact ⟨0, Nat.zero_le _, rfl, rfl, by omega⟩
  case round =>
    obtain ⟨j, hj, rfl, rfl, hjk⟩ := hrel
    obtain ⟨n, hn⟩ : ∃ n, n = 8 * j := ⟨_, rfl⟩
    rw [← hn] at hjk ⊢
    by_cases hlt : j < l
    · have cj := HC.out j hlt
      by_cases h8 : 8 * (j + 1) ≤ k
      · rw [mb_full _ (by omega), show (255 : UInt8).toNat = 255 from rfl] at cj
        have HN := Lib.hid hn
        have hn2 : n ≤ 128 := by omega
        clear hn
        go_wp2_with fail
        go_round
        case rel => exact ⟨j + 1, by omega, by go_num, by have := HN.out; refine int_eq8 ?_; omega, by omega⟩
        case measure => simp [intOf]; omega
      · obtain ⟨r, hr⟩ : ∃ r, r = k - 8 * j := ⟨_, rfl⟩
        rw [← hr] at cj
        have hr8 : r < 8 := by omega
        have hne := mb_ne r hr8
        have t1 : (((mb r).toNat : Int) == 255) = false := by rw [beq_eq_false_iff_ne]; omega
        have hn2 : n ≤ 128 := by omega
        have HK := Lib.hid (show n + r = k by omega)
        have HZ := Lib.hid (show ∀ i, j < i → i < l → w.cell? ⟨b, o + i, none⟩ = some (.int .u8 0) from fun i h1 h2 => by
          rw [HC.out i h2, show k - 8 * i = 0 by omega]; rfl)
        clear hn hne hr
        go_wp2_with fail
        go_loop [3, 5] (fun m v => ∃ q : Nat, q ≤ r ∧ v = .int .u8 (mb q).toNat ∧ ∃ x : Nat, m = .int .i64 x ∧ x ≤ 200 ∧ Hid (x + q = k)) (fun _ v => (intOf v).toNat)
        case atStart => exact ⟨r, Nat.le_refl _, rfl, n, rfl, by omega, HK.out⟩
        case round =>
          obtain ⟨q, hq, rfl, x, rfl, hx, hxq⟩ := hrel
          by_cases hq0 : 0 < q
          · obtain ⟨q', rfl⟩ : ∃ q', q = q' + 1 := ⟨q - 1, by omega⟩
            have htop := mb_top (q' + 1) (by omega)
            rw [if_pos hq0] at htop
            have hsh := mb_shift q' (by omega)
            have hdec := Lib.hid (show (mb q').toNat < (mb (q' + 1)).toNat from mb_lt q' (by omega))
            generalize (mb (q' + 1)).toNat = v1 at htop hsh hdec ⊢
            have HSH := Lib.hid hsh
            clear hsh
            go_wp2_with fail
            go_round
            case rel => exact ⟨q', by omega, by first | (rw [HSH.out]) | (refine int_eq8 ?_; have := HSH.out; rw [IntKind.wrap_u8] at this; omega), x + 1, by go_num, by have := hxq.out; omega, by have := hxq.out; show x + 1 + q' = k; omega⟩
            case measure => simp [intOf]; have := HSH.out; rw [IntKind.wrap_u8] at this; have := hdec.out; omega
          · obtain rfl : q = 0 := by omega
            have htop := mb_top 0 (by omega)
            rw [if_neg hq0] at htop
            obtain rfl : x = k := hxq.out
            rw [mb_none] at htop ⊢
            go_wp2_with fail
            go_loop [4] (fun i => ∃ t : Nat, j < t ∧ t ≤ l ∧ i = .int .i64 t) (fun i => l - (intOf i).toNat)
            case atStart => exact ⟨j + 1, by omega, by omega, by go_num⟩
            case round =>
              obtain ⟨t, ht, htl, rfl⟩ := hrel
              by_cases htt : t < l
              · have ct := HZ.out t ht htt
                go_wp2_with fail
                go_round
                case rel => exact ⟨t + 1, by omega, by omega, by go_num⟩
                case measure => simp [intOf]; omega
              · obtain rfl : t = l := by omega
                go_wp2_with fail
                go_ret
                exact ⟨rfl, rfl⟩
    · obtain rfl : j = l := by omega
      obtain rfl : n = k := by omega
      clear hn
      go_wp2_with fail
      go_ret
      exact ⟨rfl, rfl⟩

theorem size_any (vm : Value) (a : Ad) (free : Nat) (w : World) (h : IPAt w vm (a.mask free)) (hf : free ≤ 8 * a.width) :
    Calls Tryz.prog 80 #[vm] w (fun e w' => e = .returned (.tuple #[.int .i64 ((8 * a.width - free : Nat) : Int), .int .i64 ((8 * a.width : Nat) : Int)]) ∧ w = w') := by
  obtain ⟨b, o, cap, rfl, lb, h1, h2, hc⟩ := IPAt.out h
  rw [Ad.mask_length] at h1 hc ⊢
  have HM := Lib.hid (maskLength_any b o cap a.width (8 * a.width - free) w (width_cases a).2 (by omega) h1 h2 (fun i hi => by
    rw [hc i hi]
    unfold Ad.mask
    rw [maskL_getD _ _ _ hi]))
  have hW := (width_cases a).2
  obtain ⟨k, hk⟩ : ∃ k, k = 8 * a.width - free := ⟨_, rfl⟩
  rw [← hk] at HM ⊢
  have hk2 : k ≤ 128 := by omega
  generalize a.width = W at HM hW ⊢
  obtain ⟨M, hM⟩ : ∃ M : Nat, M = 8 * W := ⟨_, rfl⟩
  have e1 : (W : Int) * 8 = (M : Int) := by omega
  rw [← hM]
  clear h hc hk hM h1 hf
  go_enter Tryz.func80, Tryz.ntmps80
  go_wp2_with fail
  refine HM.out.mono ?_
  rintro e w' ⟨rfl, rfl⟩
  go_wp2_with fail
  go_ret2
  exact ⟨rfl, rfl⟩

end Go.Proofs.YtnehofekgnbelaaGreatDoor

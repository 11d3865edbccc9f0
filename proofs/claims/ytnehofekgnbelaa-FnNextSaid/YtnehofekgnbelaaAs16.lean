/-
  netip.Addr's As16; net.parseIP, ParseIP.
-/
import Derived.Test.YtnehofekgnbelaaPut
import Derived.Laws.Bits64b
namespace Go.Proofs.Ytnehofekgnbelaa
open Go.RowKit
set_option linter.unusedVariables false
set_option maxRecDepth 100000
set_option maxHeartbeats 1000000

/-- Sixteen cells of two halves. -/
def z16 : Array Value := #[.int .u8 0, .int .u8 0, .int .u8 0, .int .u8 0, .int .u8 0, .int .u8 0, .int .u8 0, .int .u8 0, .int .u8 0, .int .u8 0, .int .u8 0, .int .u8 0, .int .u8 0, .int .u8 0, .int .u8 0, .int .u8 0]
theorem row16_facts {w : World} {B : Nat} {T : TypeId} {a0 a1 a2 a3 a4 a5 a6 a7 a8 a9 a10 a11 a12 a13 a14 a15 : Value} (h : w.heap[B]? = some (.cells #[a0, a1, a2, a3, a4, a5, a6, a7, a8, a9, a10, a11, a12, a13, a14, a15] T (0, 0))) :
    w.cell? ⟨B, 0, none⟩ = some a0 ∧ w.cell? ⟨B, 1, none⟩ = some a1 ∧ w.cell? ⟨B, 2, none⟩ = some a2 ∧ w.cell? ⟨B, 3, none⟩ = some a3 ∧ w.cell? ⟨B, 4, none⟩ = some a4 ∧ w.cell? ⟨B, 5, none⟩ = some a5 ∧ w.cell? ⟨B, 6, none⟩ = some a6 ∧ w.cell? ⟨B, 7, none⟩ = some a7 ∧ w.cell? ⟨B, 8, none⟩ = some a8 ∧ w.cell? ⟨B, 9, none⟩ = some a9 ∧ w.cell? ⟨B, 10, none⟩ = some a10 ∧ w.cell? ⟨B, 11, none⟩ = some a11 ∧ w.cell? ⟨B, 12, none⟩ = some a12 ∧ w.cell? ⟨B, 13, none⟩ = some a13 ∧ w.cell? ⟨B, 14, none⟩ = some a14 ∧ w.cell? ⟨B, 15, none⟩ = some a15 ∧ w.frozen? ⟨B, 0, none⟩ = false ∧ w.frozen? ⟨B, 1, none⟩ = false ∧ w.frozen? ⟨B, 2, none⟩ = false ∧ w.frozen? ⟨B, 3, none⟩ = false ∧ w.frozen? ⟨B, 4, none⟩ = false ∧ w.frozen? ⟨B, 5, none⟩ = false ∧ w.frozen? ⟨B, 6, none⟩ = false ∧ w.frozen? ⟨B, 7, none⟩ = false ∧ w.frozen? ⟨B, 8, none⟩ = false ∧ w.frozen? ⟨B, 9, none⟩ = false ∧ w.frozen? ⟨B, 10, none⟩ = false ∧ w.frozen? ⟨B, 11, none⟩ = false ∧ w.frozen? ⟨B, 12, none⟩ = false ∧ w.frozen? ⟨B, 13, none⟩ = false ∧ w.frozen? ⟨B, 14, none⟩ = false ∧ w.frozen? ⟨B, 15, none⟩ = false :=
  ⟨cell_of_row w _ 0 _ _ _ h, cell_of_row w _ 1 _ _ _ h, cell_of_row w _ 2 _ _ _ h, cell_of_row w _ 3 _ _ _ h, cell_of_row w _ 4 _ _ _ h, cell_of_row w _ 5 _ _ _ h, cell_of_row w _ 6 _ _ _ h, cell_of_row w _ 7 _ _ _ h, cell_of_row w _ 8 _ _ _ h, cell_of_row w _ 9 _ _ _ h, cell_of_row w _ 10 _ _ _ h, cell_of_row w _ 11 _ _ _ h, cell_of_row w _ 12 _ _ _ h, cell_of_row w _ 13 _ _ _ h, cell_of_row w _ 14 _ _ _ h, cell_of_row w _ 15 _ _ _ h, frozen_of_row w _ 0 _ _ h, frozen_of_row w _ 1 _ _ h, frozen_of_row w _ 2 _ _ h, frozen_of_row w _ 3 _ _ h, frozen_of_row w _ 4 _ _ h, frozen_of_row w _ 5 _ _ h, frozen_of_row w _ 6 _ _ h, frozen_of_row w _ 7 _ _ h, frozen_of_row w _ 8 _ _ h, frozen_of_row w _ 9 _ _ h, frozen_of_row w _ 10 _ _ h, frozen_of_row w _ 11 _ _ h, frozen_of_row w _ 12 _ _ h, frozen_of_row w _ 13 _ _ h, frozen_of_row w _ 14 _ _ h, frozen_of_row w _ 15 _ _ h⟩
def as16L (hi lo : Nat) : Array Value := #[bt hi 0, bt hi 1, bt hi 2, bt hi 3, bt hi 4, bt hi 5, bt hi 6, bt hi 7, bt lo 0, bt lo 1, bt lo 2, bt lo 3, bt lo 4, bt lo 5, bt lo 6, bt lo 7]
theorem as16_eq (hi lo : Nat) : put8 (put8 z16 0 hi 8) 8 lo 8 = as16L hi lo := by
  simp [put8, z16, as16L]

theorem bt_nat (v k : Nat) : ∃ n : Nat, bt v k = .int .u8 n := ⟨_, by unfold bt; rfl⟩
theorem put_w (w : World) (o : Obj) (hi : Nat) (h1 : hi < 18446744073709551616) :
    Calls Try.prog 104 #[.slice (some ⟨w.heap.size + 1, 0, none⟩) 8 16, .int .u64 hi] ((w.alloc o).alloc (.cells z16 99)).drew
      (fun e w2 => e = .returned (.tuple #[]) ∧ w2.heap[w.heap.size]? = some o ∧ w2.heap[w.heap.size + 1]? = some (.cells (put8 z16 0 hi 8) 99 (0, 0)) ∧ Below w.heap.size w w2) := by
  have hk := two_kept (w := w) (o1 := o) (o2 := .cells z16 99) (Below.refl _ _)
  refine (bePut_any (w.heap.size + 1) 0 hi 16 99 z16 _ hk.2.1 h1 (by decide) (by omega) (by omega) (by omega)).mono ?_
  rintro e w2 ⟨rfl, hr⟩
  exact ⟨rfl, by rw [hr.other _ (by omega)]; exact hk.1, hr.row, hr.below w hk.2.2 (by omega)⟩
theorem put_w2 (w w2 : World) (o : Obj) (cs : Array Value) (hs : 16 ≤ cs.size) (lo : Nat) (h1 : lo < 18446744073709551616) (hb : Below w.heap.size w w2) (hr2 : w2.heap[w.heap.size + 1]? = some (.cells cs 99 (0, 0))) :
    Calls Try.prog 104 #[.slice (some ⟨w.heap.size + 1, 8, none⟩) 8 8, .int .u64 lo] w2.drew
      (fun e w3 => e = .returned (.tuple #[]) ∧ w3.heap[w.heap.size + 1]? = some (.cells (put8 cs 8 lo 8) 99 (0, 0)) ∧ Below w.heap.size w w3 ∧ w3.heap[w.heap.size]? = w2.heap[w.heap.size]?) := by
  refine (bePut_any (w.heap.size + 1) 8 lo 8 99 cs w2.drew hr2 h1 (by omega) (by omega) (by omega) (by omega)).mono ?_
  rintro e w3 ⟨rfl, hr⟩
  exact ⟨rfl, hr.row, hr.below w (below_drewN hb 1) (by omega), hr.other _ (by omega)⟩

theorem as16_any (hi lo : Nat) (six : Bool) (w : World) (h1 : hi < 18446744073709551616) (h2 : lo < 18446744073709551616) :
    Calls Try.prog 85 #[naddr hi lo six] w (BelowPost w (.agg (as16L hi lo))) := by
  have H1 := Lib.hid (fun o => put_w w o hi h1)
  have H2 := Lib.hid (fun w2 hb hr => put_w2 w w2 (.cells #[] 0) (put8 z16 0 hi 8) (by rw [put8_size]; decide) lo h2 hb hr)
  obtain ⟨n0, e0⟩ := bt_nat hi 0
  obtain ⟨n1, e1⟩ := bt_nat hi 1
  obtain ⟨n2, e2⟩ := bt_nat hi 2
  obtain ⟨n3, e3⟩ := bt_nat hi 3
  obtain ⟨n4, e4⟩ := bt_nat hi 4
  obtain ⟨n5, e5⟩ := bt_nat hi 5
  obtain ⟨n6, e6⟩ := bt_nat hi 6
  obtain ⟨n7, e7⟩ := bt_nat hi 7
  obtain ⟨n8, e8⟩ := bt_nat lo 0
  obtain ⟨n9, e9⟩ := bt_nat lo 1
  obtain ⟨n10, e10⟩ := bt_nat lo 2
  obtain ⟨n11, e11⟩ := bt_nat lo 3
  obtain ⟨n12, e12⟩ := bt_nat lo 4
  obtain ⟨n13, e13⟩ := bt_nat lo 5
  obtain ⟨n14, e14⟩ := bt_nat lo 6
  obtain ⟨n15, e15⟩ := bt_nat lo 7
  have hE := as16_eq hi lo
  have hv : as16L hi lo = #[(.int .u8 n0), (.int .u8 n1), (.int .u8 n2), (.int .u8 n3), (.int .u8 n4), (.int .u8 n5), (.int .u8 n6), (.int .u8 n7), (.int .u8 n8), (.int .u8 n9), (.int .u8 n10), (.int .u8 n11), (.int .u8 n12), (.int .u8 n13), (.int .u8 n14), (.int .u8 n15)] := by
    unfold as16L
    rw [e0, e1, e2, e3, e4, e5, e6, e7, e8, e9, e10, e11, e12, e13, e14, e15]
  rw [hv] at hE ⊢
  have HE := Lib.hid hE
  clear hE hv e0 e1 e2 e3 e4 e5 e6 e7 e8 e9 e10 e11 e12 e13 e14 e15
  unfold naddr
  unfold z16 at H1
  go_enter Try.func85, Try.ntmps85
  go_wp2_with fail
  go_region_held3 (fun w' => w'.cell? ⟨w.heap.size, 0, none⟩ = some (.int .u64 hi)) (go_keep) (first | (go_at_call 104; refine (H1.out _).mono ?_; rintro e w2 ⟨rfl, hk⟩; obtain ⟨b0, b1, b2, b3, b4⟩ := row5_facts hk.1; have HK := Lib.hid hk; clear hk))
  go_wp2_with fail
  go_region_held3 (fun w' => w'.cell? ⟨w.heap.size, 1, none⟩ = some (.int .u64 lo)) (go_keep) (first | (go_at_call 104; refine (H2.out _ HK.out.2.2 HK.out.2.1).mono ?_; rintro e w3 ⟨rfl, hk⟩; obtain ⟨d0, d1, d2, d3, d4⟩ := row5_facts (hk.2.2.trans HK.out.1); have HK3 := Lib.hid hk; clear hk))
  have hrow := HK3.out.1
  rw [HE.out] at hrow
  have HB3 := Lib.hid HK3.out.2.1
  obtain ⟨c0, c1, c2, c3, c4, c5, c6, c7, c8, c9, c10, c11, c12, c13, c14, c15, f0, f1, f2, f3, f4, f5, f6, f7, f8, f9, f10, f11, f12, f13, f14, f15⟩ := row16_facts hrow
  clear hrow HK3 b0 b1 b2 b3 b4 d0 d1 d2 d3 d4
  go_wp2_with fail
  refine bodyPost_ret (v := .agg #[.int .u8 n0, .int .u8 n1, .int .u8 n2, .int .u8 n3, .int .u8 n4, .int .u8 n5, .int .u8 n6, .int .u8 n7, .int .u8 n8, .int .u8 n9, .int .u8 n10, .int .u8 n11, .int .u8 n12, .int .u8 n13, .int .u8 n14, .int .u8 n15]) (by simp [results, Try.results85, go_sem, c0, c1, c2, c3, c4, c5, c6, c7, c8, c9, c10, c11, c12, c13, c14, c15]) rfl ⟨rfl, ?_⟩
  repeat refine Below.setCell ?_ (by simp) _
  exact HB3.out

end Go.Proofs.Ytnehofekgnbelaa

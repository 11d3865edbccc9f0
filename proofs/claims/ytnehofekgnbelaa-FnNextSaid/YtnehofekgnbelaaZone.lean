/-
  netip.Addr's Zone, Is6, WithZone, As16.
-/
import Derived.Test.YtnehofekgnbelaaA16
import Derived.Laws.Bits64b
namespace Go.Proofs.Ytnehofekgnbelaa
open Go.RowKit
set_option linter.unusedVariables false
set_option maxRecDepth 100000
set_option maxHeartbeats 1000000

/-- A box and what lies behind it. -/
theorem one_kept {w w2 : World} {o1 : Obj} (hb : Below (w.alloc o1).drew.heap.size (w.alloc o1).drew w2) :
    w2.heap[w.heap.size]? = some o1 ∧ Below w.heap.size w w2 := by
  have hb2 : Below (w.alloc o1).heap.size (w.alloc o1) w2 := below_tr (below_drewN (Below.refl _ _) 1) hb
  refine ⟨?_, below_tr ((Below.refl w.heap.size w).alloc (Nat.le_refl _) _) hb2⟩
  rw [hb2.block w.heap.size (by simp)]
  exact heap_alloc_new w _
theorem two_kept' {w w2 : World} {o1 o2 : Obj} (hb : Below ((w.alloc o1).alloc o2).heap.size ((w.alloc o1).alloc o2) w2) :
    w2.heap[w.heap.size]? = some o1 ∧ w2.heap[w.heap.size + 1]? = some o2 ∧ Below w.heap.size w w2 := by
  refine ⟨?_, ?_, below_tr (((Below.refl w.heap.size w).alloc (Nat.le_refl _) _).alloc (by simp) _) hb⟩
  · rw [hb.block w.heap.size (by simp; omega), heap_alloc_old _ _ (by simp)]
    exact heap_alloc_new w _
  · rw [hb.block (w.heap.size + 1) (by simp)]
    have := heap_alloc_new (w.alloc o1) o2
    rw [World.size_alloc] at this
    exact this
theorem row5_facts {w : World} {B : Nat} {T : TypeId} {a b c d e : Value} (h : w.heap[B]? = some (.cells #[a, b, c, d, e] T (0, 0))) :
    w.cell? ⟨B, 0, none⟩ = some a ∧ w.cell? ⟨B, 1, none⟩ = some b ∧ w.cell? ⟨B, 2, none⟩ = some c ∧ w.cell? ⟨B, 3, none⟩ = some d ∧ w.cell? ⟨B, 4, none⟩ = some e :=
  ⟨cell_of_row w _ 0 _ _ _ h, cell_of_row w _ 1 _ _ _ h, cell_of_row w _ 2 _ _ _ h, cell_of_row w _ 3 _ _ _ h, cell_of_row w _ 4 _ _ _ h⟩

theorem zone_any (hi lo : Nat) (six : Bool) (w : World) :
    Calls Try.prog 84 #[naddr hi lo six] w (BelowPost w (.string ⟨#[]⟩)) := by
  unfold naddr
  go_enter Try.func84, Try.ntmps84
  go_wp2_with fail
  go_region_held3 (fun w' => w'.cell? ⟨w.heap.size, 2, none⟩ = some (.bool true) ∧ w'.cell? ⟨w.heap.size, 3, none⟩ = some (.bool six) ∧ w'.cell? ⟨w.heap.size, 4, none⟩ = some (.string ⟨#[]⟩)) (go_keep) (first | (go_at_call 91; refine (z0_any _).mono ?_; rintro e w2 ⟨rfl, hb⟩; have hk := one_kept hb; obtain ⟨c0, c1, c2, c3, c4⟩ := row5_facts hk.1; have HB := Lib.hid hk.2; clear hk hb))
  go_wp2_with fail
  go_ret
  exact ⟨rfl, HB.out⟩

theorem row_on {w1 w2 : World} {k : Nat} {o : Obj} (hb : Below w1.heap.size w1 w2) (h : w1.heap[k]? = some o) : w2.heap[k]? = some o := by
  rw [hb.block k (by have := (Array.getElem?_eq_some_iff.1 h).1; exact this)]; exact h

theorem is6_any (hi lo : Nat) (w : World) :
    Calls Try.prog 109 #[naddr hi lo true] w (BelowPost w (.bool true)) := by
  unfold naddr
  go_enter Try.func109, Try.ntmps109
  go_wp2_with fail
  go_region_held3 (fun w' => w'.cell? ⟨w.heap.size, 2, none⟩ = some (.bool true) ∧ w'.cell? ⟨w.heap.size, 3, none⟩ = some (.bool true) ∧ w'.cell? ⟨w.heap.size, 4, none⟩ = some (.string ⟨#[]⟩)) (go_keep) (first | (go_at_call 91; refine (z0_any _).mono ?_; rintro e w2 ⟨rfl, hb⟩; have hk := one_kept hb; obtain ⟨c0, c1, c2, c3, c4⟩ := row5_facts hk.1; have HB := Lib.hid hk; clear hk hb) | (go_at_call 92; refine (z4_any _).mono ?_; rintro e w3 ⟨rfl, hb⟩; unfold detail; have hk := row_on hb HB.out.1; obtain ⟨d0, d1, d2, d3, d4⟩ := row5_facts hk; have HB3 := Lib.hid (below_tr HB.out.2 hb); clear hk hb))
  clear c0 c1 c2 c3 c4 d0 d1 d2 d3 d4 HB
  go_wp2_with fail
  go_ret
  exact ⟨ret_bool rfl, HB3.out⟩

/-- Without a zone an address of sixteen bytes stays as it is. -/
theorem withZone_any (hi lo : Nat) (w : World) :
    Calls Try.prog 120 #[naddr hi lo true, .string ⟨#[]⟩] w (BelowPost w (naddr hi lo true)) := by
  have H6 := Lib.hid (fun w => is6_any hi lo w)
  unfold naddr at H6 ⊢
  go_enter Try.func120, Try.ntmps120
  go_wp2_with fail
  refine (H6.out _).mono ?_
  rintro e w2 ⟨rfl, hb⟩
  have hk := two_kept' hb
  obtain ⟨q0, q1, q2, q3, q4, f0, f1, f2, f3, f4⟩ := nz5_facts hk.2.1
  obtain ⟨c0, c1, c2, c3, c4⟩ := row5_facts hk.1
  have HK := Lib.hid hk
  have z2 : w2.frozen? ⟨w.heap.size, 2, none⟩ = false := frozen_of_row w2 _ 2 _ _ hk.1
  have z3 : w2.frozen? ⟨w.heap.size, 3, none⟩ = false := frozen_of_row w2 _ 3 _ _ hk.1
  have z4 : w2.frozen? ⟨w.heap.size, 4, none⟩ = false := frozen_of_row w2 _ 4 _ _ hk.1
  clear hk hb
  go_wp2_with fail
  refine (z6noz_any _).mono ?_
  rintro e w3 ⟨rfl, hb⟩
  have hr := row_on hb HK.out.1
  have hr2 := row_on hb HK.out.2.1
  obtain ⟨q0, q1, q2, q3, q4, f0, f1, f2, f3, f4⟩ := nz5_facts hr2
  obtain ⟨c0, c1, c2, c3, c4⟩ := row5_facts hr
  have z2 : w3.frozen? ⟨w.heap.size, 2, none⟩ = false := frozen_of_row w3 _ 2 _ _ hr
  have z3 : w3.frozen? ⟨w.heap.size, 3, none⟩ = false := frozen_of_row w3 _ 3 _ _ hr
  have z4 : w3.frozen? ⟨w.heap.size, 4, none⟩ = false := frozen_of_row w3 _ 4 _ _ hr
  have HB := Lib.hid (below_tr HK.out.2.2 hb)
  clear hr hr2 hb
  unfold detail
  go_wp2_with fail
  refine bodyPost_ret (v := naddr hi lo true) (by simp [results, Try.results120, go_sem, naddr, q0, q1, q2, q3, q4]) rfl ⟨rfl, ?_⟩
  repeat refine Below.setCell ?_ (by simp) _
  exact HB.out

end Go.Proofs.Ytnehofekgnbelaa

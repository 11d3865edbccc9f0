/-
  netip.AddrFrom4, parseIPv4.
-/
import Derived.Test.YtnehofekgnbelaaFrom4
import Derived.Laws.Bits64b
namespace Go.Proofs.Ytnehofekgnbelaa
open Go.RowKit
set_option linter.unusedVariables false
set_option maxRecDepth 100000
set_option maxHeartbeats 1000000

theorem two_kept {w w2 : World} {o1 o2 : Obj} (hb : Below ((w.alloc o1).alloc o2).drew.heap.size ((w.alloc o1).alloc o2).drew w2) :
    w2.heap[w.heap.size]? = some o1 ∧ w2.heap[w.heap.size + 1]? = some o2 ∧ Below w.heap.size w w2 := by
  have hb2 : Below ((w.alloc o1).alloc o2).heap.size ((w.alloc o1).alloc o2) w2 := below_tr (below_drewN (Below.refl _ _) 1) hb
  refine ⟨?_, ?_, below_tr (((Below.refl w.heap.size w).alloc (Nat.le_refl _) _).alloc (by simp) _) hb2⟩
  · rw [hb2.block w.heap.size (by simp; omega), heap_alloc_old _ _ (by simp)]
    exact heap_alloc_new w _
  · rw [hb2.block (w.heap.size + 1) (by simp)]
    have := heap_alloc_new (w.alloc o1) o2
    rw [World.size_alloc] at this
    exact this

/-- The cells of a netip.Addr, zero. -/
def nz5 : Array Value := #[.int .u64 0, .int .u64 0, .bool false, .bool false, .string ⟨#[]⟩]
theorem nz5_facts {w : World} {B : Nat} {T : TypeId} (h : w.heap[B]? = some (.cells nz5 T (0, 0))) :
    w.cell? ⟨B, 0, none⟩ = some (.int .u64 0) ∧ w.cell? ⟨B, 1, none⟩ = some (.int .u64 0) ∧ w.cell? ⟨B, 2, none⟩ = some (.bool false) ∧ w.cell? ⟨B, 3, none⟩ = some (.bool false) ∧ w.cell? ⟨B, 4, none⟩ = some (.string ⟨#[]⟩) ∧
    w.frozen? ⟨B, 0, none⟩ = false ∧ w.frozen? ⟨B, 1, none⟩ = false ∧ w.frozen? ⟨B, 2, none⟩ = false ∧ w.frozen? ⟨B, 3, none⟩ = false ∧ w.frozen? ⟨B, 4, none⟩ = false :=
  ⟨cell_of_row w _ 0 _ _ _ h, cell_of_row w _ 1 _ _ _ h, cell_of_row w _ 2 _ _ _ h, cell_of_row w _ 3 _ _ _ h, cell_of_row w _ 4 _ _ _ h, frozen_of_row w _ 0 _ _ h, frozen_of_row w _ 1 _ _ h, frozen_of_row w _ 2 _ _ h, frozen_of_row w _ 3 _ _ h, frozen_of_row w _ 4 _ _ h⟩
theorem row4_facts {w : World} {B : Nat} {T : TypeId} {a b c d : Value} (h : w.heap[B]? = some (.cells #[a, b, c, d] T (0, 0))) :
    w.cell? ⟨B, 0, none⟩ = some a ∧ w.cell? ⟨B, 1, none⟩ = some b ∧ w.cell? ⟨B, 2, none⟩ = some c ∧ w.cell? ⟨B, 3, none⟩ = some d :=
  ⟨cell_of_row w _ 0 _ _ _ h, cell_of_row w _ 1 _ _ _ h, cell_of_row w _ 2 _ _ _ h, cell_of_row w _ 3 _ _ _ h⟩
theorem below_set5 {k : Nat} {w w' : World} {B : Nat} (h : Below k w w') (hB : k ≤ B) (a b c d e : Value) :
    Below k w (((((w'.setCell ⟨B, 0, none⟩ a).setCell ⟨B, 1, none⟩ b).setCell ⟨B, 2, none⟩ c).setCell ⟨B, 3, none⟩ d).setCell ⟨B, 4, none⟩ e) :=
  ((((h.setCell hB _).setCell hB _).setCell hB _).setCell hB _).setCell hB _

theorem addrFrom4_any (g0 g1 g2 g3 : Nat) (w : World) (h0 : g0 ≤ 255) (h1 : g1 ≤ 255) (h2 : g2 ≤ 255) (h3 : g3 ≤ 255) :
    Calls Try.prog 89 #[.agg #[.int .u8 g0, .int .u8 g1, .int .u8 g2, .int .u8 g3]] w (BelowPost w (naddr 0 (281470681743360 + foldF [g0, g1, g2, g3]) false)) := by
  obtain ⟨s0, hs0⟩ : ∃ s, s = g0 * 16777216 := ⟨_, rfl⟩
  have b0 : IntKind.u64.wrap ((g0 : Int) * 16777216) = (s0 : Int) := by rw [w64 _ (by omega) (by omega)]; omega
  obtain ⟨s1, hs1⟩ : ∃ s, s = g1 * 65536 := ⟨_, rfl⟩
  have b1 : IntKind.u64.wrap ((g1 : Int) * 65536) = (s1 : Int) := by rw [w64 _ (by omega) (by omega)]; omega
  obtain ⟨s2, hs2⟩ : ∃ s, s = g2 * 256 := ⟨_, rfl⟩
  have b2 : IntKind.u64.wrap ((g2 : Int) * 256) = (s2 : Int) := by rw [w64 _ (by omega) (by omega)]; omega
  have k0 : IntKind.u64.wrap (g0 : Int) = (g0 : Int) := w64 _ (by omega) (by omega)
  have k1 : IntKind.u64.wrap (g1 : Int) = (g1 : Int) := w64 _ (by omega) (by omega)
  have k2 : IntKind.u64.wrap (g2 : Int) = (g2 : Int) := w64 _ (by omega) (by omega)
  have k3 : IntKind.u64.wrap (g3 : Int) = (g3 : Int) := w64 _ (by omega) (by omega)
  obtain ⟨m1, hm1⟩ : ∃ m, m = 281470681743360 + s0 := ⟨_, rfl⟩
  have o1 : bits .or .u64 (281470681743360 : Int) (s0 : Int) = (m1 : Int) := by rw [or64 32 _ _ (by omega) (by omega) (by omega) (by omega) (by omega) (by omega)]; omega
  obtain ⟨m2, hm2⟩ : ∃ m, m = m1 + s1 := ⟨_, rfl⟩
  have o2 : bits .or .u64 (m1 : Int) (s1 : Int) = (m2 : Int) := by rw [or64 24 _ _ (by omega) (by omega) (by omega) (by omega) (by omega) (by omega)]; omega
  obtain ⟨m3, hm3⟩ : ∃ m, m = m2 + s2 := ⟨_, rfl⟩
  have o3 : bits .or .u64 (m2 : Int) (s2 : Int) = (m3 : Int) := by rw [or64 16 _ _ (by omega) (by omega) (by omega) (by omega) (by omega) (by omega)]; omega
  obtain ⟨m4, hm4⟩ : ∃ m, m = m3 + g3 := ⟨_, rfl⟩
  have o4 : bits .or .u64 (m3 : Int) (g3 : Int) = (m4 : Int) := by rw [or64 8 _ _ (by omega) (by omega) (by omega) (by omega) (by omega) (by omega)]; omega
  have HM : Hid (m4 = 281470681743360 + foldF [g0, g1, g2, g3]) := by
    show m4 = _
    simp only [foldF, List.foldl]
    omega
  clear hs0 hs1 hs2 hm1 hm2 hm3 hm4
  rw [← HM.out]
  clear HM
  go_enter Try.func89, Try.ntmps89
  go_wp2_with fail
  go_region_held3 (fun w' => w'.cell? ⟨w.heap.size, 0, none⟩ = some (.int .u8 g0) ∧ w'.cell? ⟨w.heap.size, 1, none⟩ = some (.int .u8 g1) ∧ w'.cell? ⟨w.heap.size, 2, none⟩ = some (.int .u8 g2) ∧ w'.cell? ⟨w.heap.size, 3, none⟩ = some (.int .u8 g3)) (go_keep) (first | (go_at_call 92; refine (z4_any _).mono ?_; rintro e w2 ⟨rfl, hb⟩; unfold detail; have hk := two_kept hb; have hk1 := row4_facts hk.1; obtain ⟨q0, q1, q2, q3, q4, f0, f1, f2, f3, f4⟩ := nz5_facts hk.2.1; have HB := Lib.hid hk.2.2; clear hk hb))
  go_wp2_with fail
  refine bodyPost_ret (v := naddr 0 m4 false) (by simp [results, Try.results89, go_sem, naddr, q0, q1, q2, q3, q4]) rfl ⟨rfl, below_set5 HB.out (by omega) _ _ _ _ _⟩

/-- What parsing tells: an address, and no error. -/
def ParsedPost (w : World) (v : Value) (e : Ending) (w' : World) : Prop := e = .returned (.tuple #[v, .nilIface]) ∧ Below w.heap.size w w'

theorem parseIPv4_any (s : ByteArray) (N : Nat) (w : World) (hq : quadN 3 (bl s) 0 = some N) (hs : s.size ≤ 1000) :
    Calls Try.prog 102 #[.string s] w (ParsedPost w (naddr 0 (281470681743360 + N) false)) := by
  have h2 : ((w.alloc (.cells nz5 113)).alloc (.cells (f4 []) 135)).heap[w.heap.size + 1]? = some (.cells (f4 []) 135 (0, 0)) := by
    have := heap_alloc_new (w.alloc (.cells nz5 113)) (.cells (f4 []) 135)
    rw [World.size_alloc] at this
    exact this
  have hf := fields_any s N (w.heap.size + 1) 135 _ hq hs h2
  obtain ⟨lo, hlo⟩ : ∃ lo, lo = 281470681743360 + N := ⟨_, rfl⟩
  rw [← hlo]
  have HLO := Lib.hid hlo
  have HF := Lib.hid hf
  clear hf hq h2 hlo
  go_enter Try.func102, Try.ntmps102
  go_wp2_with fail
  refine HF.out.mono ?_
  rintro e w2 ⟨rfl, F, hl, hsm, hN, hrel⟩
  match F, hl with
  | [g0, g1, g2, g3], _ =>
    have i0 := hsm g0 (by simp)
    have i1 := hsm g1 (by simp)
    have i2 := hsm g2 (by simp)
    have i3 := hsm g3 (by simp)
    have hrow : w2.heap[w.heap.size + 1]? = some (.cells #[.int .u8 g0, .int .u8 g1, .int .u8 g2, .int .u8 g3] 135 (0, 0)) := hrel.row
    obtain ⟨c0, c1, c2, c3⟩ := row4_facts hrow
    have hres : w2.heap[w.heap.size]? = some (.cells nz5 113 (0, 0)) := by
      rw [hrel.other _ (by omega), heap_alloc_old _ _ (by simp)]
      exact heap_alloc_new w _
    have hbelow := hrel.below w (((Below.refl w.heap.size w).alloc (Nat.le_refl _) _).alloc (by simp) _) (by omega)
    have HN := Lib.hid hN
    have HR := Lib.hid hres
    have HB := Lib.hid hbelow
    clear hN hres hbelow hsm hrel hrow
    go_wp2_with fail
    refine (addrFrom4_any g0 g1 g2 g3 _ i0 i1 i2 i3).mono ?_
    rintro e w3 ⟨rfl, hb3⟩
    have hres3 : w3.heap[w.heap.size]? = some (.cells nz5 113 (0, 0)) := by
      rw [hb3.block _ (by have := (Array.getElem?_eq_some_iff.1 HR.out).1; exact this)]
      exact HR.out
    obtain ⟨q0, q1, q2, q3, q4, f0, f1, f2, f3, f4⟩ := nz5_facts hres3
    rw [← HN.out, ← HLO.out]
    have HB3 := Lib.hid (below_tr HB.out hb3)
    clear hb3 hres3
    unfold naddr
    go_wp2_with fail
    exact bodyPost_ret (v := .tuple #[naddr 0 lo false, .nilIface]) (by simp [results, Try.results102, go_sem, naddr, q0, q1, q2, q3, q4]) rfl ⟨rfl, below_set5 HB3.out (Nat.le_refl _) _ _ _ _ _⟩

end Go.Proofs.Ytnehofekgnbelaa

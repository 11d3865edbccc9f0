/-
  Texts put together: GetIt, Rel
-/
import Derived.Test.YtnehofekgnbelaaGreatDoorY36
import Derived.Test.YtnehofekgnbelaaGreatDoorY38
import Derived.Defers
import Derived.Recover
namespace Go.Proofs.YtnehofekgnbelaaGreatDoor
open Go.RowKit
set_option linter.unusedVariables false
set_option maxRecDepth 100000
set_option maxHeartbeats 1000000
theorem zbU (a : Addr) (w : World) : (method 390 93 (.pointer (some a)) "Lock").run Tryz.prog w = .ok (203, .pointer (some a)) w := by kernel_rfl
theorem xQ (a : Addr) (w : World) : (method 390 93 (.pointer (some a)) "Unlock").run Tryz.prog w = .ok (205, .pointer (some a)) w := by kernel_rfl
theorem xR (a : Addr) (w : World) : (method 390 93 (.pointer (some a)) "LastReservedIP").run Tryz.prog w = .ok (202, .pointer (some a)) w := by kernel_rfl
theorem zaN (a : Addr) (w : World) : (method 390 93 (.pointer (some a)) "Reserve").run Tryz.prog w = .ok (40, .pointer (some a)) w := by kernel_rfl
theorem zaV (a : Addr) (w : World) : (method 390 93 (.pointer (some a)) "ReleaseByID").run Tryz.prog w = .ok (204, .pointer (some a)) w := by kernel_rfl
theorem zdL (a : Addr) (w : World) : (method 390 93 (.pointer (some a)) "GetByID").run Tryz.prog w = .ok (74, .pointer (some a)) w := by kernel_rfl
def zS (w : World) (A SV T : Nat) (rid : ByteArray) : Prop :=
 w.heap[A]? = some (.cells #[.pointer (some ⟨SV, 0, none⟩), .iface 93 (.pointer (some ⟨T, 0, none⟩)), .string rid] 129 (0, 0))
theorem zS.fr {w w' : World} {A SV T : Nat} {rid : ByteArray} {ts : List Nat} {base : Nat} (h : zS w A SV T rid) (hf : Fr ts base w w') (h1 : 129 ∉ ts) : zS w' A SV T rid := hf.rows _ _ _ _ h h1
def iter0 (Rs : List RIn) (last : Option Ad) : It := match last.bind fun a => (Rs.findIdx? fun R => inR R a).map fun i => (a, i) with
 | some (a, i) => ⟨i, some a, none⟩
 | none => ⟨0, none, Rs[0]?.map zB⟩
theorem zaO {α : Type} {l : List α} {p : α → Bool} {k : Nat} {x : α} (h : l[k]? = some x) (hp : p x = true) (ha : ∀ y ∈ l.take k, p y = false) : l.findIdx? p = some k := by
 induction l generalizing k with
 | nil => cases h
 | cons y l ih =>
  cases k with
  | zero =>
   obtain rfl : y = x := by simpa using h
   simp [List.findIdx?_cons, hp]
  | succ k =>
   have hy := ha y (by simp)
   rw [List.findIdx?_cons, hy]
   simp [ih (k := k) (by simpa using h) (fun z hz => ha z (by simp [hz]))]
theorem zdM {α : Type} {l : List α} {p : α → Bool} (h : l.any p = false) : l.findIdx? p = none := by
 rw [List.findIdx?_eq_none_iff]
 intro x hx
 have := List.any_eq_false.1 h x hx
 simpa using this
def zhW (w : World) (SV : Nat) (Rs : List RIn) (last : Option Ad) (e : Ending) (w' : World) : Prop :=
 ∃ IT, e = .returned (.tuple #[.pointer (some ⟨IT, 0, none⟩), .nilIface]) ∧ IterAt w' IT SV (iter0 Rs last) ∧ w.heap.size ≤ IT ∧ Below w.heap.size w w'
theorem zeP (base T : Nat) (hs : List HV) (last : Option Ad) (SV g cap : Nat) (Rs : List RIn) (A : Nat) (rid : ByteArray) (w : World) (hsto : Sto w base T hs last) (hset : SetH base w SV g cap Rs) (hA : zS w A SV T rid) (hne : 0 < Rs.length) :
  Calls Tryz.prog 102 #[.pointer (some ⟨A, 0, none⟩)] w (zhW w SV Rs last) := by
 have hnil := fun w a n c => run_neq_slice_nil_any (P := Tryz.prog) w 67 5 a n c 0 0 Tryz.underlying67
 have hm := fun w => xR ⟨T, 0, none⟩ w
 have HSET := zh hset
 have HA := zh hA
 have HSTO := zh hsto
 have a0 := cell_of_row w A 0 _ _ _ hA
 have a1 := cell_of_row w A 1 _ _ _ hA
 have a2 := cell_of_row w A 2 _ _ _ hA
 have lA : A < w.heap.size := (Array.getElem?_eq_some_iff.1 hA).1
 clear hsto hset hA
 go_enter Tryz.func102, Tryz.ntmps102
 go_wp2_with fail
 have hbA : Below w.heap.size w (w.alloc (.cells #[.pointer (some ⟨SV, 0, none⟩), .int .i64 0, .slice none 0 0, .slice none 0 0] 223)).drew := below_drewN ((Below.refl _ _).alloc (Nat.le_refl _) _) 1
 have HBA := zh hbA
 have HIT := zh (show (w.alloc (.cells #[.pointer (some ⟨SV, 0, none⟩), .int .i64 0, .slice none 0 0, .slice none 0 0] 223)).drew.heap[w.heap.size]? = some (.cells #[.pointer (some ⟨SV, 0, none⟩), .int .i64 0, .slice none 0 0, .slice none 0 0] 223) from heap_alloc_new w _)
 clear hbA
 refine wp_region_held_drew (S := (fun w' => w'.cell? ⟨A, 1, none⟩ = some (.iface 93 (.pointer (some ⟨T, 0, none⟩))) ∧ w'.cell? ⟨A, 2, none⟩ = some (.string rid))) (by kernel_rfl) ?_ (fun hHeld => ?_)
 ·go_keep
 refine zA 0 16 ?v0x1 (by rfl) (by kernel_rfl) (by kernel_rfl) (by kernel_rfl) (by kernel_rfl) (fun _ _ _ _ h => h) (by kernel_rfl) ?hy0x1 (by assumption) ?nx0x1
 case hy0x1 =>
  intro w' hSw
  go_simp
  try with_reducible rfl
 simp only [sA, sB, sC]
 refine zA 1 17 ?v1x2 (by rfl) (by kernel_rfl) (by kernel_rfl) (by kernel_rfl) (by kernel_rfl) (fun _ _ _ _ h => h) (by kernel_rfl) ?hy1x2 (by assumption) ?nx1x2
 case hy1x2 =>
  intro w' hSw
  go_simp
  try with_reducible rfl
 simp only [sA, sB, sC]
 refine zA 2 18 ?v2x3 (by rfl) (by kernel_rfl) (by kernel_rfl) (by kernel_rfl) (by kernel_rfl) (fun _ _ _ _ h => h) (by kernel_rfl) ?hy2x3 (by assumption) ?nx2x3
 case hy2x3 =>
  intro w' hSw
  go_simp
  try with_reducible rfl
 simp only [sA, sB, sC]
 refine zA 3 19 ?v3x4 (by rfl) (by kernel_rfl) (by kernel_rfl) (by kernel_rfl) (by kernel_rfl) (fun _ _ _ _ h => h) (by kernel_rfl) ?hy3x4 (by assumption) ?nx3x4
 case hy3x4 =>
  intro w' hSw
  go_simp
  try with_reducible rfl
 simp only [sA, sB, sC]
 refine zA 4 20 ?v4x5 (by rfl) (by kernel_rfl) (by kernel_rfl) (by kernel_rfl) (by kernel_rfl) (fun _ _ _ _ h => h) (by kernel_rfl) ?hy4x5 (by assumption) ?nx4x5
 case hy4x5 =>
  intro w' hSw
  go_simp
  try with_reducible rfl
 simp only [sA, sB, sC]
 refine zA 5 21 ?v5x6 (by rfl) (by kernel_rfl) (by kernel_rfl) (by kernel_rfl) (by kernel_rfl) (fun _ _ _ _ h => h) (by kernel_rfl) ?hy5x6 (by assumption) ?nx5x6
 case hy5x6 =>
  intro w' hSw
  go_simp
  try with_reducible rfl
 simp only [sA, sB, sC]
 refine zA 6 22 ?v6x7 (by rfl) (by kernel_rfl) (by kernel_rfl) (by kernel_rfl) (by kernel_rfl) (fun _ _ _ _ h => h) (by kernel_rfl) ?hy6x7 (by assumption) ?nx6x7
 case hy6x7 =>
  intro w' hSw
  go_simp
  try with_reducible rfl
 simp only [sA, sB, sC]
 refine zA 7 23 ?v7x8 (by rfl) (by kernel_rfl) (by kernel_rfl) (by kernel_rfl) (by kernel_rfl) (fun _ _ _ _ h => h) (by kernel_rfl) ?hy7x8 (by assumption) ?nx7x8
 case hy7x8 =>
  intro w' hSw
  go_simp
  try with_reducible rfl
 simp only [sA, sB, sC]
 refine zA 8 24 ?v8x9 (by rfl) (by kernel_rfl) (by kernel_rfl) (by kernel_rfl) (by kernel_rfl) (fun _ _ _ _ h => h) (by kernel_rfl) ?hy8x9 (by assumption) ?nx8x9
 case hy8x9 =>
  intro w' hSw
  go_simp
  try with_reducible rfl
 simp only [sA, sB, sC]
 refine zA 9 25 ?v9x10 (by rfl) (by kernel_rfl) (by kernel_rfl) (by kernel_rfl) (by kernel_rfl) (fun _ _ _ _ h => h) (by kernel_rfl) ?hy9x10 (by assumption) ?nx9x10
 case hy9x10 =>
  intro w' hSw
  go_simp
  try with_reducible rfl
 simp only [sA, sB, sC]
 refine wpAnyH_ready (rs := [10]) (by kernel_rfl) (by simp) (AllReadyH.cons (o := _) rfl (fun K hK => ?_) AllReadyH.nil)
 go_simp
 go_at_call 202
 refine (zaT base T hs last rid _ (HSTO.out.on HBA.out)).mono ?_
 rintro e w2 hpost
 cases last with
 | none =>
  obtain ⟨⟨b, rfl⟩, hb2⟩ := hpost
  have c1 : w2.cell? ⟨A, 1, none⟩ = some (.iface 93 (.pointer (some ⟨T, 0, none⟩))) := ((below_tr HBA.out hb2).cell (p := ⟨A, 1, none⟩) lA).trans a1
  have c2 : w2.cell? ⟨A, 2, none⟩ = some (.string rid) := ((below_tr HBA.out hb2).cell (p := ⟨A, 2, none⟩) lA).trans a2
  have HBT := zh hb2
  clear hb2
  refine hK.out _ _ ?_ (fun hHeld => ?_)
  ·exact ⟨c1, c2⟩
  clear hK K
  try simp only [Act.put, sA, sB, sC]
  refine zA 11 15 ?v11x11 (by rfl) (by kernel_rfl) (by kernel_rfl) (by kernel_rfl) (by kernel_rfl) (fun _ _ _ _ h => h) (by kernel_rfl) ?hy11x11 (by assumption) ?nx11x11
  case hy11x11 =>
   intro w' hSw
   go_simp
   try with_reducible rfl
  simp only [sA, sB, sC]
  refine zA 12 27 ?v12x12 (by rfl) (by kernel_rfl) (by kernel_rfl) (by kernel_rfl) (by kernel_rfl) (fun _ _ _ _ h => h) (by kernel_rfl) ?hy12x12 (by assumption) ?nx12x12
  case hy12x12 =>
   intro w' hSw
   go_simp
   try with_reducible rfl
  simp only [sA, sB, sC]
  refine zA 13 28 ?v13x13 (by rfl) (by kernel_rfl) (by kernel_rfl) (by kernel_rfl) (by kernel_rfl) (fun _ _ _ _ h => h) (by kernel_rfl) ?hy13x13 (by assumption) ?nx13x13
  case hy13x13 =>
   intro w' hSw
   go_simp
   try with_reducible rfl
  simp only [sA, sB, sC]
  refine zA 14 6 ?v14x14 (by rfl) (by kernel_rfl) (by kernel_rfl) (by kernel_rfl) (by kernel_rfl) (fun _ _ _ _ h => h) (by kernel_rfl) ?hy14x14 (by assumption) ?nx14x14
  case hy14x14 =>
   intro w' hSw
   go_simp
   try with_reducible rfl
  simp only [sA, sB, sC]
  refine zA 15 7 ?v15x15 (by rfl) (by kernel_rfl) (by kernel_rfl) (by kernel_rfl) (by kernel_rfl) (fun _ _ _ _ h => h) (by kernel_rfl) ?hy15x15 (by assumption) ?nx15x15
  case hy15x15 =>
   intro w' hSw
   go_simp
   try with_reducible rfl
  simp only [sA, sB, sC]
  refine wpAnyH_done (by kernel_rfl) ?_ _
  have HI0 := zh (show iter0 Rs none = ⟨0, none, Rs[0]?.map zB⟩ from rfl)
  clear c1 c2 hHeld
  obtain ⟨wt, hwt⟩ : ∃ wt, wt = w2 := ⟨_, rfl⟩
  subst hwt
  have hItT := row_on HBT.out HIT.out
  have hAT : zS wt A SV T rid := HA.out.fr (ts := []) (base := 0) (Fr.of_below (below_tr HBA.out HBT.out)) (by simp)
  have hST := HSET.out.on (below_tr HBA.out HBT.out)
  obtain ⟨R0, hR0⟩ : ∃ R0, Rs[0]? = some R0 := ⟨_, List.getElem?_eq_getElem hne⟩
  obtain ⟨v0, v1, vi, vm, v4, hat, hhv⟩ := hST.els 0 R0 hR0
  have HHV := zh hhv
  have HR0 := zh hR0
  have HITT := zh hItT
  obtain ⟨⟨b0, n0, k0, rfl⟩, _⟩ := hhv.slices
  have t0 := cell_of_row wt A 0 _ _ _ hAT
  have tS : wt.cell? ⟨SV, 0, none⟩ = some (.slice (some ⟨g, 0, none⟩) Rs.length cap) := cell_of_row wt SV 0 _ _ _ hST.row
  have tg : wt.cell? ⟨g, 0, none⟩ = some (.slice b0 n0 k0) := by have := hat.c0; simpa using this
  have i1 := cell_of_row wt w.heap.size 1 _ _ _ hItT
  have i3 := cell_of_row wt w.heap.size 3 _ _ _ hItT
  have z1 := frozen_of_row wt w.heap.size 1 _ _ hItT
  have z3 := frozen_of_row wt w.heap.size 3 _ _ hItT
  have lA2 : ¬ w.heap.size = A := by omega
  have lS2 : ¬ w.heap.size = SV := by have := (Array.getElem?_eq_some_iff.1 HSET.out.row).1; omega
  have lg2 : ¬ w.heap.size = g := by have := HSET.out.glo; have := HSET.out.sz; omega
  have qn : (0 : Int) < (Rs.length : Int) := by omega
  clear hItT hAT hST hR0 hat hhv a0 a1 a2
  go_wp2_with fail
  go_ret2
  have s1 := heap_setCell_same wt w.heap.size 1 _ _ (.int .i64 0) HITT.out
  have s2 := heap_setCell_same _ w.heap.size 3 _ _ (.slice b0 n0 k0) s1
  have hb2 : Below wt.heap.size wt wt := Below.refl _ _
  have hbk : Bk wt ((wt.setCell ⟨w.heap.size, 1, none⟩ (.int .i64 0)).setCell ⟨w.heap.size, 3, none⟩ (.slice b0 n0 k0)) := (Bk.set (fun x => by rw [i1]; simp [u8v])).trans (Bk.set (fun x => by rw [cell_of_row _ _ 3 _ _ _ s1]; simp [u8v]))
  have hgd := HSET.out.good R0 (List.mem_of_getElem? HR0.out)
  have hse := yB hgd.k.oa hgd.k.room hgd.k.k1 hgd.k.k2 hgd.ok
  refine ⟨w.heap.size, rfl, ?_, Nat.le_refl _, ((below_tr HBA.out HBT.out).setCell (Nat.le_refl _) _).setCell (Nat.le_refl _) _⟩
  rw [HI0.out, HR0.out]
  exact ⟨⟨_, _, s2, rfl, .inr (IPAt.stay HHV.out.hs hbk)⟩, (fun a h => by cases h), (fun a h => by cases h; exact hse.1)⟩
 | some a =>
  obtain ⟨v, rfl, hv, hb2⟩ := hpost
  have c1 : w2.cell? ⟨A, 1, none⟩ = some (.iface 93 (.pointer (some ⟨T, 0, none⟩))) := ((below_tr HBA.out hb2).cell (p := ⟨A, 1, none⟩) lA).trans a1
  have c2 : w2.cell? ⟨A, 2, none⟩ = some (.string rid) := ((below_tr HBA.out hb2).cell (p := ⟨A, 2, none⟩) lA).trans a2
  have HB2 := zh hb2
  have HV := zh hv
  have HOKA := zh (HSTO.out.lok a rfl)
  obtain ⟨b5, o5, n5, k5, rfl⟩ := hv.slice
  clear hb2 hv
  refine hK.out _ _ ?_ (fun hHeld => ?_)
  ·exact ⟨c1, c2⟩
  clear hK K
  try simp only [Act.put, sA, sB, sC]
  refine zA 11 15 ?v11x16 (by rfl) (by kernel_rfl) (by kernel_rfl) (by kernel_rfl) (by kernel_rfl) (fun _ _ _ _ h => h) (by kernel_rfl) ?hy11x16 (by assumption) ?nx11x16
  case hy11x16 =>
   intro w' hSw
   go_simp
   try with_reducible rfl
  simp only [sA, sB, sC]
  refine zA 12 27 ?v12x17 (by rfl) (by kernel_rfl) (by kernel_rfl) (by kernel_rfl) (by kernel_rfl) (fun _ _ _ _ h => h) (by kernel_rfl) ?hy12x17 (by assumption) ?nx12x17
  case hy12x17 =>
   intro w' hSw
   go_simp
   try with_reducible rfl
  simp only [sA, sB, sC]
  refine zA 13 28 ?v13x18 (by rfl) (by kernel_rfl) (by kernel_rfl) (by kernel_rfl) (by kernel_rfl) (fun _ _ _ _ h => h) (by kernel_rfl) ?hy13x18 (by assumption) ?nx13x18
  case hy13x18 =>
   intro w' hSw
   go_simp
   try with_reducible rfl
  simp only [sA, sB, sC]
  refine zA 14 6 ?v14x19 (by rfl) (by kernel_rfl) (by kernel_rfl) (by kernel_rfl) (by kernel_rfl) (fun _ _ _ _ h => h) (by kernel_rfl) ?hy14x19 (by assumption) ?nx14x19
  case hy14x19 =>
   intro w' hSw
   go_simp
   try with_reducible rfl
  simp only [sA, sB, sC]
  refine zA 15 7 ?v15x20 (by rfl) (by kernel_rfl) (by kernel_rfl) (by kernel_rfl) (by kernel_rfl) (fun _ _ _ _ h => h) (by kernel_rfl) ?hy15x20 (by assumption) ?nx15x20
  case hy15x20 =>
   intro w' hSw
   go_simp
   try with_reducible rfl
  simp only [sA, sB, sC]
  refine wpAnyH_done (by kernel_rfl) ?_ _
  have c0 : w2.cell? ⟨A, 0, none⟩ = some (.pointer (some ⟨SV, 0, none⟩)) := ((below_tr HBA.out HB2.out).cell (p := ⟨A, 0, none⟩) lA).trans a0
  obtain ⟨q, hq⟩ : ∃ q : Bool, q = (Rs.any fun R => inR R a) := ⟨_, rfl⟩
  have HSC := zh (show Calls Tryz.prog 141 #[.pointer (some ⟨SV, 0, none⟩), .slice (some ⟨b5, o5, none⟩) n5 k5] w2 (BelowPost w2 (.bool q)) from by
   rw [hq]; exact zbK SV g cap Rs _ a w2 (HSET.out.on (below_tr HBA.out HB2.out)) HV.out HOKA.out)
  have HQ := zh hq
  clear hq hHeld
  go_wp2_with fail
  refine HSC.out.mono ?_
  rintro e w3 ⟨rfl, hb3⟩
  have HBT := zh (below_tr HB2.out hb3)
  have HV3 := zh (HV.out.keep hb3)
  clear hb3 c0 c1 c2 HSC HV HB2
  obtain ⟨wt, hwt⟩ : ∃ wt, wt = w3 := ⟨_, rfl⟩
  subst hwt
  cases q with
  | false =>
   have HI0 := zh (show iter0 Rs (some a) = ⟨0, none, Rs[0]?.map zB⟩ by
    unfold iter0
    rw [Option.bind_some, zdM HQ.out.symm]
    rfl)
   have hItT := row_on HBT.out HIT.out
   have hAT : zS wt A SV T rid := HA.out.fr (ts := []) (base := 0) (Fr.of_below (below_tr HBA.out HBT.out)) (by simp)
   have hST := HSET.out.on (below_tr HBA.out HBT.out)
   obtain ⟨R0, hR0⟩ : ∃ R0, Rs[0]? = some R0 := ⟨_, List.getElem?_eq_getElem hne⟩
   obtain ⟨v0, v1, vi, vm, v4, hat, hhv⟩ := hST.els 0 R0 hR0
   have HHV := zh hhv
   have HR0 := zh hR0
   have HITT := zh hItT
   obtain ⟨⟨b0, n0, k0, rfl⟩, _⟩ := hhv.slices
   have t0 := cell_of_row wt A 0 _ _ _ hAT
   have tS : wt.cell? ⟨SV, 0, none⟩ = some (.slice (some ⟨g, 0, none⟩) Rs.length cap) := cell_of_row wt SV 0 _ _ _ hST.row
   have tg : wt.cell? ⟨g, 0, none⟩ = some (.slice b0 n0 k0) := by have := hat.c0; simpa using this
   have i1 := cell_of_row wt w.heap.size 1 _ _ _ hItT
   have i3 := cell_of_row wt w.heap.size 3 _ _ _ hItT
   have z1 := frozen_of_row wt w.heap.size 1 _ _ hItT
   have z3 := frozen_of_row wt w.heap.size 3 _ _ hItT
   have lA2 : ¬ w.heap.size = A := by omega
   have lS2 : ¬ w.heap.size = SV := by have := (Array.getElem?_eq_some_iff.1 HSET.out.row).1; omega
   have lg2 : ¬ w.heap.size = g := by have := HSET.out.glo; have := HSET.out.sz; omega
   have qn : (0 : Int) < (Rs.length : Int) := by omega
   clear hItT hAT hST hR0 hat hhv a0 a1 a2
   go_wp2_with fail
   go_ret2
   have s1 := heap_setCell_same wt w.heap.size 1 _ _ (.int .i64 0) HITT.out
   have s2 := heap_setCell_same _ w.heap.size 3 _ _ (.slice b0 n0 k0) s1
   have hb2 : Below wt.heap.size wt wt := Below.refl _ _
   have hbk : Bk wt ((wt.setCell ⟨w.heap.size, 1, none⟩ (.int .i64 0)).setCell ⟨w.heap.size, 3, none⟩ (.slice b0 n0 k0)) := (Bk.set (fun x => by rw [i1]; simp [u8v])).trans (Bk.set (fun x => by rw [cell_of_row _ _ 3 _ _ _ s1]; simp [u8v]))
   have hgd := HSET.out.good R0 (List.mem_of_getElem? HR0.out)
   have hse := yB hgd.k.oa hgd.k.room hgd.k.k1 hgd.k.k2 hgd.ok
   refine ⟨w.heap.size, rfl, ?_, Nat.le_refl _, ((below_tr HBA.out HBT.out).setCell (Nat.le_refl _) _).setCell (Nat.le_refl _) _⟩
   rw [HI0.out, HR0.out]
   exact ⟨⟨_, _, s2, rfl, .inr (IPAt.stay HHV.out.hs hbk)⟩, (fun a h => by cases h), (fun a h => by cases h; exact hse.1)⟩
  | true =>
   have hAT : zS wt A SV T rid := HA.out.fr (ts := []) (base := 0) (Fr.of_below (below_tr HBA.out HBT.out)) (by simp)
   have hST := HSET.out.on (below_tr HBA.out HBT.out)
   have t0 := cell_of_row wt A 0 _ _ _ hAT
   have tS : wt.cell? ⟨SV, 0, none⟩ = some (.slice (some ⟨g, 0, none⟩) Rs.length cap) := cell_of_row wt SV 0 _ _ _ hST.row
   have HST := zh hST
   have hle := hST.le
   have hmo := hST.most
   clear hAT hST a0 a1 a2
   go_wp2_with fail
   go_loopw [49] (fun i wr => ∃ k : Nat, i = .int .i64 k ∧ k ≤ Rs.length ∧ Hid (Below wt.heap.size wt wr ∧ ∀ Q ∈ Rs.take k, inR Q a = false)) (fun i _ => Rs.length - (intOf i).toNat)
   case atStart => exact ⟨0, rfl, by omega, zh ⟨Below.refl _ _, fun h hh => by simp at hh⟩⟩
   case round =>
    obtain ⟨k, rfl, hk, hr⟩ := hrel
    by_cases hlt : k < Rs.length
    rotate_left
    ·exfalso
     obtain rfl : k = Rs.length := by omega
     obtain ⟨R, hR, hin⟩ := List.any_eq_true.1 HQ.out.symm
     have := hr.out.2 R (by rw [List.take_length]; exact hR)
     rw [this] at hin
     cases hin
    have tk : decide ((k : Int) < Rs.length) = true := decide_eq_true (by omega)
    have hx : Rs[k]? = some Rs[k] := List.getElem?_eq_getElem hlt
    have hgood := HSET.out.good _ (List.getElem_mem hlt)
    obtain ⟨v0, v1, vi, vm, v4, hat, hhv⟩ := (HST.out.on hr.out.1).els k _ hx
    have htake : Rs.take (k + 1) = Rs.take k ++ [Rs[k]] := List.take_succ_eq_append_getElem hlt
    generalize Rs[k] = R at *
    have HX := zh hx
    have HTK := zh htake
    obtain ⟨⟨b0, n0, k0, rfl⟩, ⟨b1, n1, k1, rfl⟩, ⟨b2, n2, k2, rfl⟩, ⟨b3, n3, k3, rfl⟩, ⟨b4, n4, k4, rfl⟩⟩ := hhv.slices
    obtain ⟨c0, c1, c2, c3, c4⟩ := hat
    have q1 : (0 : Int) ≤ (k : Int) := by omega
    obtain ⟨b, hb⟩ : ∃ b, b = inR R a := ⟨_, rfl⟩
    have hnew := heap_alloc_new wr (.cells #[.slice b0 n0 k0, .slice b1 n1 k1, .slice b2 n2 k2, .slice b3 n3 k3, .slice b4 n4 k4] 72)
    have hbn : Below wr.heap.size wr (wr.alloc (.cells #[.slice b0 n0 k0, .slice b1 n1 k1, .slice b2 n2 k2, .slice b3 n3 k3, .slice b4 n4 k4] 72)) := (Below.refl _ _).alloc (Nat.le_refl _) _
    have HBN := zh hbn
    have HCO := zh (show Calls Tryz.prog 84 #[.pointer (some ⟨wr.heap.size, 0, none⟩), .slice (some ⟨b5, o5, none⟩) n5 k5] (wr.alloc (.cells #[.slice b0 n0 k0, .slice b1 n1 k1, .slice b2 n2 k2, .slice b3 n3 k3, .slice b4 n4 k4] 72)) (BelowPost _ (.bool b)) from by
     rw [hb]; exact (hhv.on hbn).contA hnew hgood ((HV3.out.keep hr.out.1).keep hbn) HOKA.out)
    have HB := zh hb
    clear hx htake hhv hb hnew hbn hgood
    go_wp2_with fail
    refine HCO.out.mono ?_
    rintro e w4 ⟨rfl, hb4⟩
    have HB4 := zh (below_tr (below_tr hr.out.1 HBN.out) hb4)
    clear hb4 c0 c1 c2 c3 c4
    cases b with
    | true =>
     have hItT := row_on (below_tr HBT.out HB4.out) HIT.out
     have HITT := zh hItT
     have i1 := cell_of_row w4 w.heap.size 1 _ _ _ hItT
     have i2 := cell_of_row w4 w.heap.size 2 _ _ _ hItT
     have z1 := frozen_of_row w4 w.heap.size 1 _ _ hItT
     have z2 := frozen_of_row w4 w.heap.size 2 _ _ hItT
     clear hItT
     go_wp2_with fail
     go_ret2
     have s1 := heap_setCell_same w4 w.heap.size 1 _ _ (.int .i64 (k : Int)) HITT.out
     have s2 := heap_setCell_same _ w.heap.size 2 _ _ (.slice (some ⟨b5, o5, none⟩) n5 k5) s1
     have hbk : Bk w4 ((w4.setCell ⟨w.heap.size, 1, none⟩ (.int .i64 (k : Int))).setCell ⟨w.heap.size, 2, none⟩ (.slice (some ⟨b5, o5, none⟩) n5 k5)) := (Bk.set (fun x => by rw [i1]; simp [u8v])).trans (Bk.set (fun x => by rw [cell_of_row _ _ 2 _ _ _ s1]; simp [u8v]))
     refine ⟨w.heap.size, rfl, ?_, Nat.le_refl _, ((below_tr (below_tr HBA.out HBT.out) HB4.out).setCell (Nat.le_refl _) _).setCell (Nat.le_refl _) _⟩
     have hi0 : iter0 Rs (some a) = ⟨k, some a, none⟩ := by
      unfold iter0
      rw [Option.bind_some, zaO HX.out HB.out.symm hr.out.2]
      rfl
     rw [hi0]
     exact ⟨⟨_, _, s2, (HV3.out.keep HB4.out).stay hbk, rfl⟩, (fun x h => by cases h; exact HOKA.out), (fun x h => by cases h)⟩
    | false =>
     go_wp2_with fail
     go_roundw
     case rel => exact ⟨k + 1, by simp, by omega, zh ⟨HB4.out, fun Q hQ => by
      rw [HTK.out] at hQ
      rcases List.mem_append.1 hQ with hQ | hQ
      ·exact hr.out.2 Q hQ
      ·obtain rfl := List.mem_singleton.1 hQ
       exact HB.out.symm⟩⟩
     case measure => simp [intOf]; omega
theorem zeQ (base T : Nat) (hs : List HV) (last : Option Ad) (A SV : Nat) (rid id at_ : ByteArray) (w : World) (hsto : Sto w base T hs last) (hA : zS w A SV T rid) :
  Calls Tryz.prog 73 #[.pointer (some ⟨A, 0, none⟩), .string id, .string at_] w (zhV w base T hs last id at_) := by
 have hm1 := fun w => zbU ⟨T, 0, none⟩ w
 have hm2 := fun w => xQ ⟨T, 0, none⟩ w
 have hm3 := fun w => zaV ⟨T, 0, none⟩ w
 have HREL := zh (zbT base T hs last id at_ w hsto)
 have a1 := cell_of_row w A 1 _ _ _ hA
 clear hsto hA
 go_enter_defers Tryz.func73, Tryz.ntmps73
 go_wp2_with fail
 refine (zcR T _).mono ?_
 rintro e w1 ⟨rfl, rfl⟩
 go_wp2_with fail
 refine HREL.out.mono ?_
 rintro e w2 ⟨rfl, hs2, hf2⟩
 have HS2 := zh hs2
 have HF2 := zh hf2
 clear hs2 hf2 a1
 go_wp2_with fail
 trace_state
 refine leaves_cons (f := 205) (args := #[.pointer (some ⟨T, 0, none⟩)]) (by simp) (by simp [go_sem, hm2]) ?_
 refine (zM T _ _).mono ?_
 rintro e u' w'' ⟨rfl, rfl, rfl⟩
 simp [Leaves, settle, results, Tryz.results73, go_sem]
 exact ⟨rfl, HS2.out, HF2.out⟩
end Go.Proofs.YtnehofekgnbelaaGreatDoor

/-
  Texts put together: Get, Desk,
-/
import Derived.Test.YtnehofekgnbelaaGreatDoorY39
import Derived.Test.YtnehofekgnbelaaGreatDoorY36
import Derived.Deep.LoopGhost
import Derived.Test.YtnehofekgnbelaaGreatDoorY31
import Derived.Lib.Join
namespace Go.Proofs.YtnehofekgnbelaaGreatDoor
open Go.RowKit
set_option linter.unusedVariables false
set_option maxRecDepth 100000
set_option maxHeartbeats 1000000
def tG : List Nat := [109, 96, 223]
def hasA (al : List Ad) (a : Ad) : Bool := al.any fun x => decide (x = a)
def askR (Rs : List RIn) (al : List Ad) (a : Ad) : Option (Nat × Ad) := match Rs.findIdx? fun R => inR R a with
 | none => none
 | some i => if Rs[i]?.map zE = some a then none else if hasA al a then none else some (i, a)
def freeR (Rs : List RIn) (al mine : List Ad) (L : List (Nat × Ad)) : Option (Nat × Ad) := if mine.any (fun x => Rs.any fun R => inR R x) then none else L.find? fun p => !hasA al p.2
inductive Src (Rs : List RIn) : It → List (Nat × Ad) → Prop
 | nil {it it' : It} : NextR Rs it it' none → Src Rs it []
 | cons {it it' : It} {p : Nat × Ad} {l : List (Nat × Ad)} : NextR Rs it it' (some p) → Src Rs it' l → Src Rs it (p :: l)
theorem zkG {Rs : List RIn} {it it' : It} {r : Option (Nat × Ad)} (h : NextR Rs it it' r) : ∀ i a, r = some (i, a) → it'.cur = some a := by
 induction h with
 | fresh _ _ => intro i a h; cases h; rfl
 | freshGate _ _ _ ih => exact ih
 | stop _ => intro i a h; cases h
 | go _ _ _ _ => intro i a h; cases h; rfl
 | goGate _ _ _ _ _ ih => exact ih
def zcU (w : World) (base T : Nat) (hs : List HV) (last : Option Ad) (Rs : List RIn) (id at_ : ByteArray) (r : Option (Nat × Ad)) (e : Ending) (w' : World) : Prop :=
 Fr tG base w w' ∧ match r with
 | none => Sto w' base T hs last ∧ ∃ b, e = .returned (.tuple #[.pointer none, .iface 203 (.pointer (some ⟨b, 0, none⟩))])
 | some (i, a) => (∃ v, Sto w' base T (hs ++ [⟨v, a, id, at_⟩]) (some a)) ∧ ∃ C va vm v4 R, Rs[i]? = some R ∧ e = .returned (.tuple #[.pointer (some ⟨C, 0, none⟩), .nilIface]) ∧
   w'.heap[C]? = some (.cells #[va, vm, v4] 134 (0, 0)) ∧ AdAt w' va a ∧ IPAt w' vm (R.a.mask R.free) ∧ BriefAt w' v4 (zE R)
theorem zhX (base T : Nat) (hs : List HV) (last : Option Ad) (SV g cap : Nat) (Rs : List RIn) (A : Nat) (rid id at_ : ByteArray) (v : Value) (a : Ad) (w : World) (hsto : Sto w base T hs last) (hset : SetH base w SV g cap Rs) (hA : zS w A SV T rid) (hv : AdAt w v a) (ok : a.ok) (hn : hs.length ≤ 1000) (hB : base ≤ w.heap.size) :
  Calls Tryz.prog 72 #[.pointer (some ⟨A, 0, none⟩), .string id, .string at_, v] w (zcU w base T hs last Rs id at_ (askR Rs (hs.map HV.a) a)) := by
 have hnil := fun w a n c => run_neq_slice_nil_any (P := Tryz.prog) w 67 5 a n c 0 0 Tryz.underlying67
 have hm1 := fun w => zbU ⟨T, 0, none⟩ w
 have hm2 := fun w => xQ ⟨T, 0, none⟩ w
 have hm3 := fun w => zaN ⟨T, 0, none⟩ w
 have HSET := zh hset
 have HA := zh hA
 have HSTO := zh hsto
 have HVV := zh hv
 have HOK := zh ok
 obtain ⟨bv, ov, nv, cv, rfl⟩ := hv.slice
 have a0 := cell_of_row w A 0 _ _ _ hA
 have a1 := cell_of_row w A 1 _ _ _ hA
 have a2 := cell_of_row w A 2 _ _ _ hA
 have lA : A < w.heap.size := (Array.getElem?_eq_some_iff.1 hA).1
 have hnw := heap_alloc_new w (.cells #[.slice (some ⟨bv, ov, none⟩) nv cv] 67)
 have hbA : Below w.heap.size w (w.alloc (.cells #[.slice (some ⟨bv, ov, none⟩) nv cv] 67)) := (Below.refl _ _).alloc (Nat.le_refl _) _
 have HBA := zh hbA
 have HNW := zh hnw
 have HC := zh (canonIP_any w.heap.size 0 (.slice (some ⟨bv, ov, none⟩) nv cv) a (w.alloc (.cells #[.slice (some ⟨bv, ov, none⟩) nv cv] 67)) (cell_of_row _ _ 0 _ _ _ hnw) (frozen_of_row _ _ 0 _ _ hnw) (hv.keep hbA))
 clear hsto hset hA hv ok hnw hbA
 go_enter_defers Tryz.func72, Tryz.ntmps72
 go_wp2_with fail
 refine (zcR T _).mono ?_
 rintro e w1 ⟨rfl, rfl⟩
 go_wp2_with fail
 refine HC.out.mono ?_
 rintro e w1 ⟨v', rfl, hv', hw1⟩
 have hrow : w1.heap[w.heap.size]? = some (.cells #[v'] 67 (0, 0)) := by rw [hw1]; exact heap_setCell_same _ _ 0 _ _ _ HNW.out
 have hbk : Bk (w.alloc (.cells #[.slice (some ⟨bv, ov, none⟩) nv cv] 67)) w1 := by
  rw [hw1]
  exact Bk.set (fun x => by rw [cell_of_row _ _ 0 _ _ _ HNW.out]; simp [u8v])
 have hb1 : Below w.heap.size w w1 := by rw [hw1]; exact HBA.out.setCell (Nat.le_refl _) _
 have hva : BriefAt w1 v' a := IPAt.stay hv' hbk
 have HVA := zh hva
 have HROW := zh hrow
 have HB1 := zh hb1
 obtain ⟨b', o', c', rfl, _⟩ := BriefAt.out hva
 have l1 : w.heap.size < w1.heap.size := (Array.getElem?_eq_some_iff.1 hrow).1
 have cB : w1.cell? ⟨w.heap.size, 0, none⟩ = some (.slice (some ⟨b', o', none⟩) a.width c') := cell_of_row w1 _ 0 _ _ _ hrow
 have d0 : w1.cell? ⟨A, 0, none⟩ = some (.pointer (some ⟨SV, 0, none⟩)) := (hb1.cell (p := ⟨A, 0, none⟩) lA).trans a0
 clear hv' hw1 hrow hbk hb1 hva HC a0 a1 a2
 go_wp2_with fail
 refine wp_region_noPanic ?_
 refine wp_region_held_drew (S := (fun w' => w'.cell? ⟨A, 0, none⟩ = some (.pointer (some ⟨SV, 0, none⟩)) ∧ w'.cell? ⟨w.heap.size, 0, none⟩ = some (.slice (some ⟨b', o', none⟩) a.width c'))) (by kernel_rfl) ?_ (fun hHeld => ?_)
 ·go_keep
 refine zA 0 42 ?v0x1 (by rfl) (by kernel_rfl) (by kernel_rfl) (by kernel_rfl) (by kernel_rfl) (fun _ _ _ _ h => h) (by kernel_rfl) ?hy0x1 (by assumption) ?nx0x1
 case hy0x1 =>
  intro w' hSw
  go_simp
  try with_reducible rfl
 simp only [sA, sB, sC]
 refine zA 1 43 ?v1x2 (by rfl) (by kernel_rfl) (by kernel_rfl) (by kernel_rfl) (by kernel_rfl) (fun _ _ _ _ h => h) (by kernel_rfl) ?hy1x2 (by assumption) ?nx1x2
 case hy1x2 =>
  intro w' hSw
  go_simp
  try with_reducible rfl
 simp only [sA, sB, sC]
 refine zA 2 44 ?v2x3 (by rfl) (by kernel_rfl) (by kernel_rfl) (by kernel_rfl) (by kernel_rfl) (fun _ _ _ _ h => h) (by kernel_rfl) ?hy2x3 (by assumption) ?nx2x3
 case hy2x3 =>
  intro w' hSw
  go_simp
  try with_reducible rfl
 simp only [sA, sB, sC]
 refine zA 3 45 ?v3x4 (by rfl) (by kernel_rfl) (by kernel_rfl) (by kernel_rfl) (by kernel_rfl) (fun _ _ _ _ h => h) (by kernel_rfl) ?hy3x4 (by assumption) ?nx3x4
 case hy3x4 =>
  intro w' hSw
  go_simp
  try with_reducible rfl
 simp only [sA, sB, sC]
 refine zA 4 46 ?v4x5 (by rfl) (by kernel_rfl) (by kernel_rfl) (by kernel_rfl) (by kernel_rfl) (fun _ _ _ _ h => h) (by kernel_rfl) ?hy4x5 (by assumption) ?nx4x5
 case hy4x5 =>
  intro w' hSw
  go_simp
  try with_reducible rfl
 simp only [sA, sB, sC]
 refine wpAnyH_ready (rs := [5]) (by kernel_rfl) (by simp) (AllReadyH.cons (o := _) rfl (fun K hK => ?_) AllReadyH.nil)
 go_simp
 go_at_call 101
 refine (xE SV g cap Rs _ a _ (HSET.out.on (below_drewN HB1.out 1)) (.inr (BriefAt.keep HVA.out (below_drewN (Below.refl _ _) 1))) HOK.out).mono ?_
 rintro e w2 ⟨hb2, hpost⟩
 have HB2 := zh (below_tr (below_drewN HB1.out 1) hb2)
 have HBX := zh (below_tr (below_drewN (Below.refl w1.heap.size w1) 1) hb2)
 have cS : w2.cell? ⟨A, 0, none⟩ = some (.pointer (some ⟨SV, 0, none⟩)) ∧ w2.cell? ⟨w.heap.size, 0, none⟩ = some (.slice (some ⟨b', o', none⟩) a.width c') := ⟨(HBX.out.cell (p := ⟨A, 0, none⟩) (by have := HB1.out.size; simp only; omega)).trans d0, (HBX.out.cell (p := ⟨w.heap.size, 0, none⟩) l1).trans cB⟩
 clear hb2
 rcases hpost with ⟨i, R, N, v0, v1, vi, vm, v4, hR, hin, hfirst, rfl, hN, hh, hle⟩ | ⟨hno, b, rfl⟩
 rotate_left
 ·have HASK := zh (show askR Rs (hs.map HV.a) a = none by
   unfold askR
   rw [List.findIdx?_eq_none_iff.2 (fun x hx => hno x hx)])
  clear hno
  refine hK.out _ _ ?_ (fun hHeld => ?_)
  ·exact cS
  clear hK K
  try simp only [Act.put, sA, sB, sC]
  refine zA 6 41 ?v6x6 (by rfl) (by kernel_rfl) (by kernel_rfl) (by kernel_rfl) (by kernel_rfl) (fun _ _ _ _ h => h) (by kernel_rfl) ?hy6x6 (by assumption) ?nx6x6
  case hy6x6 =>
   intro w' hSw
   go_simp
   try with_reducible rfl
  simp only [sA, sB, sC]
  refine zA 7 48 ?v7x7 (by rfl) (by kernel_rfl) (by kernel_rfl) (by kernel_rfl) (by kernel_rfl) (fun _ _ _ _ h => h) (by kernel_rfl) ?hy7x7 (by assumption) ?nx7x7
  case hy7x7 =>
   intro w' hSw
   go_simp
   try with_reducible rfl
  simp only [sA, sB, sC]
  refine zA 8 49 ?v8x8 (by rfl) (by kernel_rfl) (by kernel_rfl) (by kernel_rfl) (by kernel_rfl) (fun _ _ _ _ h => h) (by kernel_rfl) ?hy8x8 (by assumption) ?nx8x8
  case hy8x8 =>
   intro w' hSw
   go_simp
   try with_reducible rfl
  simp only [sA, sB, sC]
  refine zA 9 13 ?v9x9 (by rfl) (by kernel_rfl) (by kernel_rfl) (by kernel_rfl) (by kernel_rfl) (fun _ _ _ _ h => h) (by kernel_rfl) ?hy9x9 (by assumption) ?nx9x9
  case hy9x9 =>
   intro w' hSw
   go_simp
   try with_reducible rfl
  simp only [sA, sB, sC]
  refine zA 10 14 ?v10x10 (by rfl) (by kernel_rfl) (by kernel_rfl) (by kernel_rfl) (by kernel_rfl) (fun _ _ _ _ h => h) (by kernel_rfl) ?hy10x10 (by assumption) ?nx10x10
  case hy10x10 =>
   intro w' hSw
   go_simp
   try with_reducible rfl
  simp only [sA, sB, sC]
  refine wpAnyH_done (by kernel_rfl) ?_ _
  refine NoPanic.normal ?_
  clear cS cB d0 hHeld
  go_wp2_with fail
  refine leaves_cons (f := 205) (args := #[.pointer (some ⟨T, 0, none⟩)]) (by simp) (by simp [go_sem, hm2]) ?_
  refine (zM T _ _).mono ?_
  rintro e u' w'' ⟨rfl, rfl, rfl⟩
  simp [Leaves, settle, results, Tryz.results72, go_sem]
  rw [HASK.out]
  exact ⟨Fr.of_below HB2.out, HSTO.out.on HB2.out, _, rfl⟩
 have HH := zh hh
 have HNR := zh hN
 have HR := zh hR
 have HIX := zh (zaO hR hin hfirst)
 obtain ⟨⟨b0, n0, k0, rfl⟩, ⟨b1, n1, k1, rfl⟩, ⟨b2, n2, k2, rfl⟩, ⟨b3, n3, k3, rfl⟩, ⟨b4, n4, k4, rfl⟩⟩ := hh.slices
 clear hh hin hfirst
 refine hK.out _ _ ?_ (fun hHeld => ?_)
 ·exact cS
 clear hK K
 try simp only [Act.put, sA, sB, sC]
 refine zA 6 41 ?v6x11 (by rfl) (by kernel_rfl) (by kernel_rfl) (by kernel_rfl) (by kernel_rfl) (fun _ _ _ _ h => h) (by kernel_rfl) ?hy6x11 (by assumption) ?nx6x11
 case hy6x11 =>
  intro w' hSw
  go_simp
  try with_reducible rfl
 simp only [sA, sB, sC]
 refine zA 7 48 ?v7x12 (by rfl) (by kernel_rfl) (by kernel_rfl) (by kernel_rfl) (by kernel_rfl) (fun _ _ _ _ h => h) (by kernel_rfl) ?hy7x12 (by assumption) ?nx7x12
 case hy7x12 =>
  intro w' hSw
  go_simp
  try with_reducible rfl
 simp only [sA, sB, sC]
 refine zA 8 49 ?v8x13 (by rfl) (by kernel_rfl) (by kernel_rfl) (by kernel_rfl) (by kernel_rfl) (fun _ _ _ _ h => h) (by kernel_rfl) ?hy8x13 (by assumption) ?nx8x13
 case hy8x13 =>
  intro w' hSw
  go_simp
  try with_reducible rfl
 simp only [sA, sB, sC]
 refine zA 9 13 ?v9x14 (by rfl) (by kernel_rfl) (by kernel_rfl) (by kernel_rfl) (by kernel_rfl) (fun _ _ _ _ h => h) (by kernel_rfl) ?hy9x14 (by assumption) ?nx9x14
 case hy9x14 =>
  intro w' hSw
  go_simp
  try with_reducible rfl
 simp only [sA, sB, sC]
 refine zA 10 14 ?v10x15 (by rfl) (by kernel_rfl) (by kernel_rfl) (by kernel_rfl) (by kernel_rfl) (fun _ _ _ _ h => h) (by kernel_rfl) ?hy10x15 (by assumption) ?nx10x15
 case hy10x15 =>
  intro w' hSw
  go_simp
  try with_reducible rfl
 simp only [sA, sB, sC]
 refine wpAnyH_done (by kernel_rfl) ?_ _
 refine NoPanic.normal ?_
 clear hHeld cB d0
 have cB := cS.2
 have l2 : w.heap.size < w2.heap.size := Nat.lt_of_lt_of_le l1 HBX.out.size
 have e4 := cell_of_row w2 N 4 _ _ _ hN
 have lN : N < w2.heap.size := (Array.getElem?_eq_some_iff.1 hN).1
 clear cS hR hN
 go_wp2_with fail
 obtain ⟨q, hq⟩ : ∃ q : Bool, q = decide (a = zE R) := ⟨_, rfl⟩
 have hgood := HSET.out.good R (List.mem_of_getElem? HR.out)
 have HEQ := zh (show Calls Tryz.prog 68 #[.slice (some ⟨b', o', none⟩) a.width c', .slice b4 n4 k4] w2.drew (BelowPost w2.drew (.bool q)) from by
  rw [hq]
  exact yT _ _ _ _ w2.drew (.inr (BriefAt.keep (BriefAt.keep HVA.out HBX.out) (below_drewN (Below.refl _ _) 1))) (.inr (BriefAt.keep HH.out.hg (below_drewN (Below.refl _ _) 1))) HOK.out (xO hgood.k hgood.ok))
 have HQ := zh hq
 clear hq hgood
 refine wp_region_noPanic ?_
 refine wp_region_held_drew (S := (fun w' => w'.cell? ⟨w.heap.size, 0, none⟩ = some (.slice (some ⟨b', o', none⟩) a.width c') ∧ w'.cell? ⟨N, 4, none⟩ = some (.slice b4 n4 k4))) (by kernel_rfl) ?_ (fun hHeld => ?_)
 ·go_keep
 refine zA 0 53 ?v0x16 (by rfl) (by kernel_rfl) (by kernel_rfl) (by kernel_rfl) (by kernel_rfl) (fun _ _ _ _ h => h) (by kernel_rfl) ?hy0x16 (by assumption) ?nx0x16
 case hy0x16 =>
  intro w' hSw
  go_simp
  try with_reducible rfl
 simp only [sA, sB, sC]
 refine zA 1 54 ?v1x17 (by rfl) (by kernel_rfl) (by kernel_rfl) (by kernel_rfl) (by kernel_rfl) (fun _ _ _ _ h => h) (by kernel_rfl) ?hy1x17 (by assumption) ?nx1x17
 case hy1x17 =>
  intro w' hSw
  go_simp
  try with_reducible rfl
 simp only [sA, sB, sC]
 refine zA 2 55 ?v2x18 (by rfl) (by kernel_rfl) (by kernel_rfl) (by kernel_rfl) (by kernel_rfl) (fun _ _ _ _ h => h) (by kernel_rfl) ?hy2x18 (by assumption) ?nx2x18
 case hy2x18 =>
  intro w' hSw
  go_simp
  try with_reducible rfl
 simp only [sA, sB, sC]
 refine zA 3 56 ?v3x19 (by rfl) (by kernel_rfl) (by kernel_rfl) (by kernel_rfl) (by kernel_rfl) (fun _ _ _ _ h => h) (by kernel_rfl) ?hy3x19 (by assumption) ?nx3x19
 case hy3x19 =>
  intro w' hSw
  go_simp
  try with_reducible rfl
 simp only [sA, sB, sC]
 refine zA 4 57 ?v4x20 (by rfl) (by kernel_rfl) (by kernel_rfl) (by kernel_rfl) (by kernel_rfl) (fun _ _ _ _ h => h) (by kernel_rfl) ?hy4x20 (by assumption) ?nx4x20
 case hy4x20 =>
  intro w' hSw
  go_simp
  try with_reducible rfl
 simp only [sA, sB, sC]
 refine wpAnyH_ready (rs := [5]) (by kernel_rfl) (by simp) (AllReadyH.cons (o := _) rfl (fun K hK => ?_) AllReadyH.nil)
 go_simp
 go_at_call 68
 refine HEQ.out.mono ?_
 rintro e w3 ⟨rfl, hb3⟩
 have HY := zh (below_tr (below_drewN (Below.refl w2.heap.size w2) 1) hb3)
 have cB3 : w3.cell? ⟨w.heap.size, 0, none⟩ = some (.slice (some ⟨b', o', none⟩) a.width c') := (HY.out.cell (p := ⟨w.heap.size, 0, none⟩) l2).trans cB
 have e43 : w3.cell? ⟨N, 4, none⟩ = some (.slice b4 n4 k4) := (HY.out.cell (p := ⟨N, 4, none⟩) lN).trans e4
 clear hb3
 refine hK.out _ _ ?_ (fun hHeld => ?_)
 ·exact ⟨cB3, e43⟩
 clear hK K
 try simp only [Act.put, sA, sB, sC]
 refine wpAnyH_done (by kernel_rfl) ?_ _
 refine NoPanic.normal ?_
 clear hHeld HEQ cB e4 e43
 have HB3 := zh (below_tr HB2.out HY.out)
 cases q with
 | true =>
  have HASK := zh (show askR Rs (hs.map HV.a) a = none by
   unfold askR
   rw [HIX.out]
   simp only [HR.out, Option.map_some]
   rw [if_pos (by rw [← of_decide_eq_true HQ.out.symm])])
  go_wp2_with fail
  refine (newError_any _ _).mono ?_
  rintro e w4 ⟨rfl, hb4⟩
  have HB4 := zh (below_tr HB3.out hb4)
  clear hb4
  go_wp2_with fail
  refine leaves_cons (f := 205) (args := #[.pointer (some ⟨T, 0, none⟩)]) (by simp) (by simp [go_sem, hm2]) ?_
  refine (zM T _ _).mono ?_
  rintro e u' w'' ⟨rfl, rfl, rfl⟩
  simp [Leaves, settle, results, Tryz.results72, go_sem]
  rw [HASK.out]
  exact ⟨Fr.of_below HB4.out, HSTO.out.on HB4.out, _, rfl⟩
 | false =>
  have hA3 := HA.out.fr (ts := []) (base := 0) (Fr.of_below HB3.out) (by simp)
  have f1 := cell_of_row w3 A 1 _ _ _ hA3
  have f2 := cell_of_row w3 A 2 _ _ _ hA3
  have HA3 := zh hA3
  have HS3 := zh (HSTO.out.on HB3.out)
  have l3 : w.heap.size < w3.heap.size := Nat.lt_of_lt_of_le l2 HY.out.size
  have HROW3 := zh (row_on HY.out (row_on HBX.out HROW.out))
  have HNR3 := zh (row_on HY.out HNR.out)
  have HVA3 := zh (BriefAt.keep (BriefAt.keep HVA.out HBX.out) HY.out)
  have HH3 := zh (HH.out.on HY.out)
  have HRES := zh (xP base T hs last (.slice (some ⟨b', o', none⟩) a.width c') a id at_ rid w3.drew (HS3.out.on (below_drewN (Below.refl _ _) 1)) (.inr (BriefAt.keep HVA3.out (below_drewN (Below.refl _ _) 1))) HOK.out hn (Nat.le_trans hB HB3.out.size))
  clear hA3
  go_wp2_with fail
  refine wp_region_noPanic ?_
  refine wp_region_held_drew (S := (fun w' => w'.cell? ⟨A, 1, none⟩ = some (.iface 93 (.pointer (some ⟨T, 0, none⟩))) ∧ w'.cell? ⟨A, 2, none⟩ = some (.string rid) ∧ w'.cell? ⟨w.heap.size, 0, none⟩ = some (.slice (some ⟨b', o', none⟩) a.width c'))) (by kernel_rfl) ?_ (fun hHeld => ?_)
  ·go_keep
  refine zA 0 61 ?v0x21 (by rfl) (by kernel_rfl) (by kernel_rfl) (by kernel_rfl) (by kernel_rfl) (fun _ _ _ _ h => h) (by kernel_rfl) ?hy0x21 (by assumption) ?nx0x21
  case hy0x21 =>
   intro w' hSw
   go_simp
   try with_reducible rfl
  simp only [sA, sB, sC]
  refine zA 1 62 ?v1x22 (by rfl) (by kernel_rfl) (by kernel_rfl) (by kernel_rfl) (by kernel_rfl) (fun _ _ _ _ h => h) (by kernel_rfl) ?hy1x22 (by assumption) ?nx1x22
  case hy1x22 =>
   intro w' hSw
   go_simp
   try with_reducible rfl
  simp only [sA, sB, sC]
  refine zA 2 63 ?v2x23 (by rfl) (by kernel_rfl) (by kernel_rfl) (by kernel_rfl) (by kernel_rfl) (fun _ _ _ _ h => h) (by kernel_rfl) ?hy2x23 (by assumption) ?nx2x23
  case hy2x23 =>
   intro w' hSw
   go_simp
   try with_reducible rfl
  simp only [sA, sB, sC]
  refine zA 3 64 ?v3x24 (by rfl) (by kernel_rfl) (by kernel_rfl) (by kernel_rfl) (by kernel_rfl) (fun _ _ _ _ h => h) (by kernel_rfl) ?hy3x24 (by assumption) ?nx3x24
  case hy3x24 =>
   intro w' hSw
   go_simp
   try with_reducible rfl
  simp only [sA, sB, sC]
  refine zA 4 65 ?v4x25 (by rfl) (by kernel_rfl) (by kernel_rfl) (by kernel_rfl) (by kernel_rfl) (fun _ _ _ _ h => h) (by kernel_rfl) ?hy4x25 (by assumption) ?nx4x25
  case hy4x25 =>
   intro w' hSw
   go_simp
   try with_reducible rfl
  simp only [sA, sB, sC]
  refine zA 5 66 ?v5x26 (by rfl) (by kernel_rfl) (by kernel_rfl) (by kernel_rfl) (by kernel_rfl) (fun _ _ _ _ h => h) (by kernel_rfl) ?hy5x26 (by assumption) ?nx5x26
  case hy5x26 =>
   intro w' hSw
   go_simp
   try with_reducible rfl
  simp only [sA, sB, sC]
  refine zA 6 67 ?v6x27 (by rfl) (by kernel_rfl) (by kernel_rfl) (by kernel_rfl) (by kernel_rfl) (fun _ _ _ _ h => h) (by kernel_rfl) ?hy6x27 (by assumption) ?nx6x27
  case hy6x27 =>
   intro w' hSw
   go_simp
   try with_reducible rfl
  simp only [sA, sB, sC]
  refine zA 7 68 ?v7x28 (by rfl) (by kernel_rfl) (by kernel_rfl) (by kernel_rfl) (by kernel_rfl) (fun _ _ _ _ h => h) (by kernel_rfl) ?hy7x28 (by assumption) ?nx7x28
  case hy7x28 =>
   intro w' hSw
   go_simp
   try with_reducible rfl
  simp only [sA, sB, sC]
  refine zA 8 69 ?v8x29 (by rfl) (by kernel_rfl) (by kernel_rfl) (by kernel_rfl) (by kernel_rfl) (fun _ _ _ _ h => h) (by kernel_rfl) ?hy8x29 (by assumption) ?nx8x29
  case hy8x29 =>
   intro w' hSw
   go_simp
   try with_reducible rfl
  simp only [sA, sB, sC]
  refine zA 9 70 ?v9x30 (by rfl) (by kernel_rfl) (by kernel_rfl) (by kernel_rfl) (by kernel_rfl) (fun _ _ _ _ h => h) (by kernel_rfl) ?hy9x30 (by assumption) ?nx9x30
  case hy9x30 =>
   intro w' hSw
   go_simp
   try with_reducible rfl
  simp only [sA, sB, sC]
  refine zA 10 71 ?v10x31 (by rfl) (by kernel_rfl) (by kernel_rfl) (by kernel_rfl) (by kernel_rfl) (fun _ _ _ _ h => h) (by kernel_rfl) ?hy10x31 (by assumption) ?nx10x31
  case hy10x31 =>
   intro w' hSw
   go_simp
   try with_reducible rfl
  simp only [sA, sB, sC]
  refine zA 11 72 ?v11x32 (by rfl) (by kernel_rfl) (by kernel_rfl) (by kernel_rfl) (by kernel_rfl) (fun _ _ _ _ h => h) (by kernel_rfl) ?hy11x32 (by assumption) ?nx11x32
  case hy11x32 =>
   intro w' hSw
   go_simp
   try with_reducible rfl
  simp only [sA, sB, sC]
  refine zA 12 73 ?v12x33 (by rfl) (by kernel_rfl) (by kernel_rfl) (by kernel_rfl) (by kernel_rfl) (fun _ _ _ _ h => h) (by kernel_rfl) ?hy12x33 (by assumption) ?nx12x33
  case hy12x33 =>
   intro w' hSw
   go_simp
   try with_reducible rfl
  simp only [sA, sB, sC]
  refine wpAnyH_ready (rs := [13]) (by kernel_rfl) (by simp) (AllReadyH.cons (o := _) rfl (fun K hK => ?_) AllReadyH.nil)
  go_simp
  go_at_call 40
  refine HRES.out.mono ?_
  rintro e w4 hpost
  rcases hpost with ⟨⟨h, hmem, ha⟩, rfl, hb4⟩ | ⟨hno, rfl, ⟨v, hs4⟩, hf4⟩
  ·have HASK := zh (show askR Rs (hs.map HV.a) a = none by
    unfold askR
    rw [HIX.out]
    have : hasA (hs.map HV.a) a = true := List.any_eq_true.2 ⟨h.a, List.mem_map_of_mem hmem, decide_eq_true ha⟩
    simp only [this, if_true, ite_self])
   have HZ := zh (below_tr (below_drewN (Below.refl w3.heap.size w3) 1) hb4)
   have HB4 := zh (below_tr HB3.out HZ.out)
   have hA4 := HA3.out.fr (ts := []) (base := 0) (Fr.of_below HZ.out) (by simp)
   have g1 := cell_of_row w4 A 1 _ _ _ hA4
   have g2 := cell_of_row w4 A 2 _ _ _ hA4
   have g3 := (HZ.out.cell (p := ⟨w.heap.size, 0, none⟩) l3).trans cB3
   clear hb4 hmem ha hA4
   refine hK.out _ _ ?_ (fun hHeld => ?_)
   ·exact ⟨g1, g2, g3⟩
   clear hK K
   try simp only [Act.put, sA, sB, sC]
   refine zA 14 60 ?v14x34 (by rfl) (by kernel_rfl) (by kernel_rfl) (by kernel_rfl) (by kernel_rfl) (fun _ _ _ _ h => h) (by kernel_rfl) ?hy14x34 (by assumption) ?nx14x34
   case hy14x34 =>
    intro w' hSw
    go_simp
    try with_reducible rfl
   simp only [sA, sB, sC]
   refine zA 15 75 ?v15x35 (by rfl) (by kernel_rfl) (by kernel_rfl) (by kernel_rfl) (by kernel_rfl) (fun _ _ _ _ h => h) (by kernel_rfl) ?hy15x35 (by assumption) ?nx15x35
   case hy15x35 =>
    intro w' hSw
    go_simp
    try with_reducible rfl
   simp only [sA, sB, sC]
   refine zA 16 76 ?v16x36 (by rfl) (by kernel_rfl) (by kernel_rfl) (by kernel_rfl) (by kernel_rfl) (fun _ _ _ _ h => h) (by kernel_rfl) ?hy16x36 (by assumption) ?nx16x36
   case hy16x36 =>
    intro w' hSw
    go_simp
    try with_reducible rfl
   simp only [sA, sB, sC]
   refine zA 17 15 ?v17x37 (by rfl) (by kernel_rfl) (by kernel_rfl) (by kernel_rfl) (by kernel_rfl) (fun _ _ _ _ h => h) (by kernel_rfl) ?hy17x37 (by assumption) ?nx17x37
   case hy17x37 =>
    intro w' hSw
    go_simp
    try with_reducible rfl
   simp only [sA, sB, sC]
   refine zA 18 14 ?v18x38 (by rfl) (by kernel_rfl) (by kernel_rfl) (by kernel_rfl) (by kernel_rfl) (fun _ _ _ _ h => h) (by kernel_rfl) ?hy18x38 (by assumption) ?nx18x38
   case hy18x38 =>
    intro w' hSw
    go_simp
    try with_reducible rfl
   simp only [sA, sB, sC]
   refine wpAnyH_done (by kernel_rfl) ?_ _
   refine NoPanic.normal ?_
   clear hHeld HRES f1 f2 g1 g2 g3 cB3
   go_wp2_with fail
   refine (newError_any _ _).mono ?_
   rintro e w5 ⟨rfl, hb5⟩
   have HB5 := zh (below_tr HB4.out hb5)
   clear hb5
   go_wp2_with fail
   refine leaves_cons (f := 205) (args := #[.pointer (some ⟨T, 0, none⟩)]) (by simp) (by simp [go_sem, hm2]) ?_
   refine (zM T _ _).mono ?_
   rintro e u' w'' ⟨rfl, rfl, rfl⟩
   simp [Leaves, settle, results, Tryz.results72, go_sem]
   rw [HASK.out]
   exact ⟨Fr.of_below HB5.out, HSTO.out.on HB5.out, _, rfl⟩
  ·have HASK := zh (show askR Rs (hs.map HV.a) a = some (i, a) by
    unfold askR
    rw [HIX.out]
    have : hasA (hs.map HV.a) a = false := List.any_eq_false.2 (fun x hx => by
     obtain ⟨h, hm, rfl⟩ := List.mem_map.1 hx
     simpa using hno h hm)
    simp only [this, HR.out, Option.map_some]
    rw [if_neg (fun e => of_decide_eq_false HQ.out.symm (Option.some.inj e).symm)]
    rfl)
   have HF4 := zh (show Fr tS base w3 w4 from (Fr.of_below (below_drewN (Below.refl _ _) 1)).trans hf4)
   have HS4 := zh hs4
   have hA4 := HA3.out.fr HF4.out (by decide)
   have g1 := cell_of_row w4 A 1 _ _ _ hA4
   have g2 := cell_of_row w4 A 2 _ _ _ hA4
   have hrow4 := HF4.out.rows _ _ _ _ HROW3.out (by decide)
   have hN4 := HF4.out.rows _ _ _ _ HNR3.out (by decide)
   have g3 := cell_of_row w4 w.heap.size 0 _ _ _ hrow4
   have g4 := cell_of_row w4 N 3 _ _ _ hN4
   have g5 := cell_of_row w4 N 4 _ _ _ hN4
   have lN4 : N < w4.heap.size := (Array.getElem?_eq_some_iff.1 hN4).1
   have lN5 : ¬ w4.heap.size = N := by omega
   have lB4 : w.heap.size < w4.heap.size := (Array.getElem?_eq_some_iff.1 hrow4).1
   have lB5 : ¬ w4.heap.size = w.heap.size := by omega
   have HVA4 := zh (IPAt.stay HVA3.out HF4.out.bk)
   have HH4 := zh (HH3.out.stay HF4.out.bk)
   clear hno hf4 hs4 hA4 hrow4 hN4
   refine hK.out _ _ ?_ (fun hHeld => ?_)
   ·exact ⟨g1, g2, g3⟩
   clear hK K
   try simp only [Act.put, sA, sB, sC]
   refine zA 14 60 ?v14x39 (by rfl) (by kernel_rfl) (by kernel_rfl) (by kernel_rfl) (by kernel_rfl) (fun _ _ _ _ h => h) (by kernel_rfl) ?hy14x39 (by assumption) ?nx14x39
   case hy14x39 =>
    intro w' hSw
    go_simp
    try with_reducible rfl
   simp only [sA, sB, sC]
   refine zA 15 75 ?v15x40 (by rfl) (by kernel_rfl) (by kernel_rfl) (by kernel_rfl) (by kernel_rfl) (fun _ _ _ _ h => h) (by kernel_rfl) ?hy15x40 (by assumption) ?nx15x40
   case hy15x40 =>
    intro w' hSw
    go_simp
    try with_reducible rfl
   simp only [sA, sB, sC]
   refine zA 16 76 ?v16x41 (by rfl) (by kernel_rfl) (by kernel_rfl) (by kernel_rfl) (by kernel_rfl) (fun _ _ _ _ h => h) (by kernel_rfl) ?hy16x41 (by assumption) ?nx16x41
   case hy16x41 =>
    intro w' hSw
    go_simp
    try with_reducible rfl
   simp only [sA, sB, sC]
   refine zA 17 15 ?v17x42 (by rfl) (by kernel_rfl) (by kernel_rfl) (by kernel_rfl) (by kernel_rfl) (fun _ _ _ _ h => h) (by kernel_rfl) ?hy17x42 (by assumption) ?nx17x42
   case hy17x42 =>
    intro w' hSw
    go_simp
    try with_reducible rfl
   simp only [sA, sB, sC]
   refine zA 18 14 ?v18x43 (by rfl) (by kernel_rfl) (by kernel_rfl) (by kernel_rfl) (by kernel_rfl) (fun _ _ _ _ h => h) (by kernel_rfl) ?hy18x43 (by assumption) ?nx18x43
   case hy18x43 =>
    intro w' hSw
    go_simp
    try with_reducible rfl
   simp only [sA, sB, sC]
   refine wpAnyH_done (by kernel_rfl) ?_ _
   refine NoPanic.normal ?_
   clear hHeld HRES f1 f2 g1 g2 cB3
   go_wp2_with fail
   go_region_held3 (fun w' => w'.cell? ⟨w.heap.size, 0, none⟩ = some (.slice (some ⟨b', o', none⟩) a.width c') ∧ w'.cell? ⟨N, 3, none⟩ = some (.slice b3 n3 k3)) (go_keep) (fail)
   go_wp2_with fail
   refine leaves_cons (f := 205) (args := #[.pointer (some ⟨T, 0, none⟩)]) (by simp) (by simp [go_sem, hm2]) ?_
   refine (zM T _ _).mono ?_
   rintro e u' w'' ⟨rfl, rfl, rfl⟩
   simp [Leaves, settle, results, Tryz.results72, go_sem]
   rw [HASK.out]
   have hb := ((Below.refl w4.heap.size w4).alloc (Nat.le_refl _) (.cells #[.slice (some ⟨b', o', none⟩) a.width c', .slice b3 n3 k3] 75)).alloc (by simp) (.cells #[.slice (some ⟨b', o', none⟩) a.width c', .slice b3 n3 k3, .slice b4 n4 k4] 134)
   refine ⟨((Fr.of_below HB3.out).trans (HF4.out.mono (fun t ht => by simp [tS] at ht; simp [tG]; omega))).trans (Fr.of_below (below_drewN hb 1)), ⟨v, HS4.out.on (below_drewN hb 1)⟩, _, _, _, _, R, HR.out, rfl, ?_, .inr (BriefAt.keep HVA4.out (below_drewN hb 1)), IPAt.keep HH4.out.mask (below_drewN hb 1), BriefAt.keep HH4.out.hg (below_drewN hb 1)⟩
   have := heap_alloc_new (w4.alloc (.cells #[.slice (some ⟨b', o', none⟩) a.width c', .slice b3 n3 k3] 75)) (.cells #[.slice (some ⟨b', o', none⟩) a.width c', .slice b3 n3 k3, .slice b4 n4 k4] 134)
   rw [World.size_alloc] at this
   exact this
theorem zkH (base T : Nat) (hs : List HV) (last : Option Ad) (SV g cap : Nat) (Rs : List RIn) (A : Nat) (rid id at_ : ByteArray) (L : List (Nat × Ad)) (w : World) (hsto : Sto w base T hs last) (hset : SetH base w SV g cap Rs) (hA : zS w A SV T rid) (hsrc : Src Rs (iter0 Rs last) L) (hne : 0 < Rs.length) (hn : hs.length ≤ 1000) (hB : base ≤ w.heap.size) :
  Calls Tryz.prog 72 #[.pointer (some ⟨A, 0, none⟩), .string id, .string at_, .slice none 0 0] w (zcU w base T hs last Rs id at_ (freeR Rs (hs.map HV.a) (byWho hs id at_) L)) := by
 have hnil := fun w a n c => run_neq_slice_nil_any (P := Tryz.prog) w 67 5 a n c 0 0 Tryz.underlying67
 have hm1 := fun w => zbU ⟨T, 0, none⟩ w
 have hm2 := fun w => xQ ⟨T, 0, none⟩ w
 have hm3 := fun w => zaN ⟨T, 0, none⟩ w
 have hm4 := fun w => zdL ⟨T, 0, none⟩ w
 have HSET := zh hset
 have HA := zh hA
 have HSTO := zh hsto
 have HSRC := zh hsrc
 have a0 := cell_of_row w A 0 _ _ _ hA
 have a1 := cell_of_row w A 1 _ _ _ hA
 have a2 := cell_of_row w A 2 _ _ _ hA
 have lA : A < w.heap.size := (Array.getElem?_eq_some_iff.1 hA).1
 have lA1 : ¬ w.heap.size = A := by omega
 have hbA : Below w.heap.size w (w.alloc (.cells #[.slice none 0 0] 67)) := (Below.refl _ _).alloc (Nat.le_refl _) _
 have HBA := zh hbA
 have HBY := zh (zbP base T hs last id at_ (w.alloc (.cells #[.slice none 0 0] 67)) (hsto.on hbA) hn)
 have HOKS := zh (show ∀ x ∈ byWho hs id at_, x.ok from fun x hx => by
  unfold byWho at hx
  obtain ⟨h, hm, rfl⟩ := List.mem_map.1 hx
  exact hsto.oks h (List.mem_filter.1 hm).1)
 clear hsto hset hA hbA hsrc
 go_enter_defers Tryz.func72, Tryz.ntmps72
 go_wp2_with fail
 refine (zcR T _).mono ?_
 rintro e w1 ⟨rfl, rfl⟩
 go_wp2_with fail
 refine HBY.out.mono ?_
 rintro e w1 ⟨v, rfl, had, hb1⟩
 have HB1 := zh (below_tr HBA.out hb1)
 obtain ⟨vs, hrv, hav⟩ := had
 obtain ⟨ao, cap1, rfl, hc1, hc2, hnone, hsome⟩ := hrv.form
 have HLEN := zh (show vs.length = (byWho hs id at_).length from by have := hrv.len; omega)
 have HNO := zh hnone
 have HSM := zh hsome
 have HAV := zh hav
 unfold maxLen at hc2
 have HIT := zh (zeP base T hs last SV g cap Rs A rid)
 clear hb1 hrv hnone hsome hav HBY a0 a1 a2
 generalize byWho hs id at_ = al at *
 go_wp2_with fail
 go_loopw [104] (fun i wr => ∃ k : Nat, i = .int .i64 k ∧ k ≤ al.length ∧ Hid (Below w1.heap.size w1 wr ∧ ∀ x ∈ al.take k, (Rs.any fun R => inR R x) = false)) (fun i _ => al.length - (intOf i).toNat)
 case atStart => exact ⟨0, rfl, by omega, zh ⟨Below.refl _ _, fun x hx => by simp at hx⟩⟩
 case round =>
  obtain ⟨k, rfl, hk, hr⟩ := hrel
  have HBR := zh (below_tr HB1.out hr.out.1)
  have hAr := HA.out.fr (ts := []) (base := 0) (Fr.of_below HBR.out) (by simp)
  have HAR := zh hAr
  by_cases hlt : k < al.length
  ·have tk : decide ((k : Int) < al.length) = true := decide_eq_true (by omega)
   obtain ⟨ad, hao⟩ : ∃ ad, ao = some ad := by
    cases ao with
    | none => have := (HNO.out rfl).1; omega
    | some ad => exact ⟨ad, rfl⟩
   obtain ⟨g1, hg, ho⟩ := HSM.out ad hao
   subst hg
   subst hao
   have hx : al[k]? = some al[k] := List.getElem?_eq_getElem hlt
   have hxm : al[k] ∈ al := List.getElem_mem hlt
   have hkv : k < vs.length := by have := HLEN.out; omega
   have hu : vs[k]? = some vs[k] := List.getElem?_eq_getElem hkv
   have hat := HAV.out k _ _ hu hx
   have hcell : wr.cell? ⟨g1, k, none⟩ = some vs[k] := by rw [hr.out.1.cell ho.lt, ho.cell k (by omega), hu]
   have htake : al.take (k + 1) = al.take k ++ [al[k]] := List.take_succ_eq_append_getElem hlt
   have HOX := zh (HOKS.out _ hxm)
   have HTK := zh htake
   have HXM := zh hxm
   clear htake hx hu hxm
   generalize al[k] = x at *
   generalize vs[k] = u at *
   obtain ⟨bu, ou, nu, cu, rfl⟩ := hat.slice
   have HRF := zh (xE SV g cap Rs _ x wr (HSET.out.on HBR.out) (hat.keep hr.out.1) HOX.out)
   have a0 := cell_of_row wr A 0 _ _ _ hAr
   have q1 : (0 : Int) ≤ (k : Int) := by omega
   clear hat ho hAr
   go_wp2_with fail
   refine HRF.out.mono ?_
   rintro e w2 ⟨hb2, hpost⟩
   have HB2 := zh (below_tr HBR.out hb2)
   have HB3 := zh (below_tr hr.out.1 hb2)
   rcases hpost with ⟨i, R, N, v0, v1, vi, vm, v4, hR, hin, hfirst, rfl, hN, hh, hle⟩ | ⟨hno, b, rfl⟩
   ·have HFREE := zh (show freeR Rs (hs.map HV.a) al L = none by
     unfold freeR
     rw [if_pos (List.any_eq_true.2 ⟨x, HXM.out, List.any_eq_true.2 ⟨R, List.mem_of_getElem? hR, hin⟩⟩)])
    clear hb2 hR hin hfirst hN hh hle hcell a0 HRF
    go_wp2_with fail
    refine (newError_any _ _).mono ?_
    rintro e w4 ⟨rfl, hb4⟩
    have HB4 := zh (below_tr HB2.out hb4)
    clear hb4
    go_wp2_with fail
    refine leaves_cons (f := 205) (args := #[.pointer (some ⟨T, 0, none⟩)]) (by simp) (by simp [go_sem, hm2]) ?_
    refine (zM T _ _).mono ?_
    rintro e u' w'' ⟨rfl, rfl, rfl⟩
    simp [Leaves, settle, results, Tryz.results72, go_sem]
    rw [HFREE.out]
    exact ⟨Fr.of_below HB4.out, HSTO.out.on HB4.out, _, rfl⟩
   ·have HNX := zh (show (Rs.any fun R => inR R x) = false from List.any_eq_false.2 (fun R hR => by rw [hno R hR]; decide))
    clear hb2 hno hcell a0 HRF
    go_wp2_with fail
    go_roundw
    case rel => exact ⟨k + 1, by simp, by omega, zh ⟨HB3.out, fun Q hQ => by
     rw [HTK.out] at hQ
     rcases List.mem_append.1 hQ with hQ | hQ
     ·exact hr.out.2 Q hQ
     ·obtain rfl := List.mem_singleton.1 hQ
      exact HNX.out⟩⟩
    case measure => simp [intOf]; omega
  ·obtain rfl : k = al.length := by omega
   have tk : decide ((al.length : Int) < al.length) = false := decide_eq_false (by omega)
   have HALL := zh (show (al.any fun x => Rs.any fun R => inR R x) = false from List.any_eq_false.2 (fun x hx => by
    have := hr.out.2 x (by rw [List.take_length]; exact hx)
    rw [this]; decide))
   have HITR := zh (HIT.out wr (HSTO.out.on HBR.out) (HSET.out.on HBR.out) HAR.out hne)
   clear hAr
   go_wp2_with fail
   refine HITR.out.mono ?_
   rintro e w3 ⟨IT, rfl, hit, hle, hb3⟩
   have HB3 := zh (below_tr HBR.out hb3)
   have HI3 := zh hit
   have HBI := zh (show base ≤ IT from Nat.le_trans hB (Nat.le_trans HBR.out.size hle))
   have HST3 := zh (HSTO.out.on HB3.out)
   have HSE3 := zh (HSET.out.on HB3.out)
   have HA3 := zh (HA.out.fr (ts := []) (base := 0) (Fr.of_below HB3.out) (by simp))
   clear hit hle hb3 HITR HIT
   go_wp2_with fail
   go_loopg [10, 11] L.length (fun n p q wx => ∃ it l, n = l.length ∧ Hid (IterAt wx IT SV it ∧ Src Rs it l ∧ Fr [223] base w3 wx ∧ (L.find? fun p => !hasA (hs.map HV.a) p.2) = l.find? fun p => !hasA (hs.map HV.a) p.2))
   case atStart => exact ⟨iter0 Rs last, L, rfl, zh ⟨HI3.out, HSRC.out, Fr.refl _ _ _, rfl⟩⟩
   case round =>
    obtain ⟨it, l, rfl, hx⟩ := hrel
    obtain ⟨h1, h2, h3, h4⟩ := hx.out
    have HF3 := zh h3
    have HFD := zh h4
    have HSEX := zh (HSE3.out.fr h3 (by decide) (by decide))
    have HFW := zh (show Fr tG base w wr from (Fr.of_below HB3.out).trans (h3.mono (fun t ht => by simp at ht; simp [tG, ht])))
    have HSTX := zh (HST3.out.fr h3 (by decide) (by decide))
    have HAX := zh (HA3.out.fr h3 (by decide))
    clear h3 h4 hx
    cases h2 with
    | nil hnx =>
     have HNX := zh (zfH SV g cap Rs hnx base IT wr HSEX.out h1 HBI.out)
     have HFREE := zh (show freeR Rs (hs.map HV.a) al L = none by
      unfold freeR
      rw [if_neg (by rw [HALL.out]; decide), HFD.out]
      rfl)
     clear hnx h1
     go_wp2_with fail
     refine HNX.out.mono ?_
     rintro e w4 ⟨hit4, hf4, hres⟩
     obtain rfl := hres
     have HF4 := zh (HFW.out.trans (hf4.mono (fun t ht => by simp at ht; simp [tG, ht])))
     have HS4 := zh (HSTX.out.fr hf4 (by decide) (by decide))
     clear hit4 hf4 HNX
     go_wp2_with fail
     refine (newError_any _ _).mono ?_
     rintro e w5 ⟨rfl, hb5⟩
     have HB5 := zh hb5
     clear hb5
     go_wp2_with fail
     refine leaves_cons (f := 205) (args := #[.pointer (some ⟨T, 0, none⟩)]) (by simp) (by simp [go_sem, hm2]) ?_
     refine (zM T _ _).mono ?_
     rintro e u' w'' ⟨rfl, rfl, rfl⟩
     simp [Leaves, settle, results, Tryz.results72, go_sem]
     rw [HFREE.out]
     exact ⟨HF4.out.trans (Fr.of_below HB5.out), HS4.out.on HB5.out, _, rfl⟩
    | @cons _ it' p l' hnx hsrc' =>
     obtain ⟨i', a'⟩ := p
     have HNX := zh (zfH SV g cap Rs hnx base IT wr HSEX.out h1 HBI.out)
     have HCUR := zh (zkG hnx i' a' rfl)
     have HSRC' := zh hsrc'
     clear hnx h1 hsrc'
     go_wp2_with fail
     refine HNX.out.mono ?_
     rintro e w4 ⟨hit4, hf4, hres⟩
     obtain ⟨N, va, vm, v4, R', hR', rfl, hn4, ha, hm, hg4⟩ := hres
     have HOKA := zh (hit4.cok a' HCUR.out)
     have HIT4 := zh hit4
     have HG4 := zh (HF3.out.trans hf4)
     have HF4 := zh (HFW.out.trans (hf4.mono (fun t ht => by simp at ht; simp [tG, ht])))
     have HS4 := zh (HSTX.out.fr hf4 (by decide) (by decide))
     have hA4 := HAX.out.fr hf4 (by decide)
     have f1 := cell_of_row w4 A 1 _ _ _ hA4
     have f2 := cell_of_row w4 A 2 _ _ _ hA4
     have f3 := cell_of_row w4 N 0 _ _ _ hn4
     have HA4 := zh hA4
     have HN4 := zh hn4
     have HM4 := zh (And.intro ha (And.intro hm (And.intro hg4 hR')))
     obtain ⟨ba, oa, na, ca, rfl⟩ := ha.slice
     obtain ⟨bm, nm, cm, rfl⟩ := zK hm.1
     obtain ⟨b4, n4, c4, rfl⟩ := zK hg4.1
     have HRES := zh (xP base T hs last (.slice (some ⟨ba, oa, none⟩) na ca) a' id at_ rid w4.drew (HS4.out.on (below_drewN (Below.refl _ _) 1)) (ha.keep (below_drewN (Below.refl _ _) 1)) HOKA.out hn (Nat.le_trans hB HF4.out.size))
     clear hit4 hf4 hA4 hn4 ha hm hg4 hR' HNX
     go_wp2_with fail
     refine wp_region_noPanic ?_
     refine wp_region_held_drew (S := (fun w' => w'.cell? ⟨A, 1, none⟩ = some (.iface 93 (.pointer (some ⟨T, 0, none⟩))) ∧ w'.cell? ⟨A, 2, none⟩ = some (.string rid) ∧ w'.cell? ⟨N, 0, none⟩ = some (.slice (some ⟨ba, oa, none⟩) na ca))) (by kernel_rfl) ?_ (fun hHeld => ?_)
     ·go_keep
     refine zA 0 137 ?v0x44 (by rfl) (by kernel_rfl) (by kernel_rfl) (by kernel_rfl) (by kernel_rfl) (fun _ _ _ _ h => h) (by kernel_rfl) ?hy0x44 (by assumption) ?nx0x44
     case hy0x44 =>
      intro w' hSw
      go_simp
      try with_reducible rfl
     simp only [sA, sB, sC]
     refine zA 1 138 ?v1x45 (by rfl) (by kernel_rfl) (by kernel_rfl) (by kernel_rfl) (by kernel_rfl) (fun _ _ _ _ h => h) (by kernel_rfl) ?hy1x45 (by assumption) ?nx1x45
     case hy1x45 =>
      intro w' hSw
      go_simp
      try with_reducible rfl
     simp only [sA, sB, sC]
     refine zA 2 139 ?v2x46 (by rfl) (by kernel_rfl) (by kernel_rfl) (by kernel_rfl) (by kernel_rfl) (fun _ _ _ _ h => h) (by kernel_rfl) ?hy2x46 (by assumption) ?nx2x46
     case hy2x46 =>
      intro w' hSw
      go_simp
      try with_reducible rfl
     simp only [sA, sB, sC]
     refine zA 3 140 ?v3x47 (by rfl) (by kernel_rfl) (by kernel_rfl) (by kernel_rfl) (by kernel_rfl) (fun _ _ _ _ h => h) (by kernel_rfl) ?hy3x47 (by assumption) ?nx3x47
     case hy3x47 =>
      intro w' hSw
      go_simp
      try with_reducible rfl
     simp only [sA, sB, sC]
     refine zA 4 141 ?v4x48 (by rfl) (by kernel_rfl) (by kernel_rfl) (by kernel_rfl) (by kernel_rfl) (fun _ _ _ _ h => h) (by kernel_rfl) ?hy4x48 (by assumption) ?nx4x48
     case hy4x48 =>
      intro w' hSw
      go_simp
      try with_reducible rfl
     simp only [sA, sB, sC]
     refine zA 5 142 ?v5x49 (by rfl) (by kernel_rfl) (by kernel_rfl) (by kernel_rfl) (by kernel_rfl) (fun _ _ _ _ h => h) (by kernel_rfl) ?hy5x49 (by assumption) ?nx5x49
     case hy5x49 =>
      intro w' hSw
      go_simp
      try with_reducible rfl
     simp only [sA, sB, sC]
     refine zA 6 143 ?v6x50 (by rfl) (by kernel_rfl) (by kernel_rfl) (by kernel_rfl) (by kernel_rfl) (fun _ _ _ _ h => h) (by kernel_rfl) ?hy6x50 (by assumption) ?nx6x50
     case hy6x50 =>
      intro w' hSw
      go_simp
      try with_reducible rfl
     simp only [sA, sB, sC]
     refine zA 7 144 ?v7x51 (by rfl) (by kernel_rfl) (by kernel_rfl) (by kernel_rfl) (by kernel_rfl) (fun _ _ _ _ h => h) (by kernel_rfl) ?hy7x51 (by assumption) ?nx7x51
     case hy7x51 =>
      intro w' hSw
      go_simp
      try with_reducible rfl
     simp only [sA, sB, sC]
     refine zA 8 145 ?v8x52 (by rfl) (by kernel_rfl) (by kernel_rfl) (by kernel_rfl) (by kernel_rfl) (fun _ _ _ _ h => h) (by kernel_rfl) ?hy8x52 (by assumption) ?nx8x52
     case hy8x52 =>
      intro w' hSw
      go_simp
      try with_reducible rfl
     simp only [sA, sB, sC]
     refine zA 9 146 ?v9x53 (by rfl) (by kernel_rfl) (by kernel_rfl) (by kernel_rfl) (by kernel_rfl) (fun _ _ _ _ h => h) (by kernel_rfl) ?hy9x53 (by assumption) ?nx9x53
     case hy9x53 =>
      intro w' hSw
      go_simp
      try with_reducible rfl
     simp only [sA, sB, sC]
     refine zA 10 147 ?v10x54 (by rfl) (by kernel_rfl) (by kernel_rfl) (by kernel_rfl) (by kernel_rfl) (fun _ _ _ _ h => h) (by kernel_rfl) ?hy10x54 (by assumption) ?nx10x54
     case hy10x54 =>
      intro w' hSw
      go_simp
      try with_reducible rfl
     simp only [sA, sB, sC]
     refine zA 11 148 ?v11x55 (by rfl) (by kernel_rfl) (by kernel_rfl) (by kernel_rfl) (by kernel_rfl) (fun _ _ _ _ h => h) (by kernel_rfl) ?hy11x55 (by assumption) ?nx11x55
     case hy11x55 =>
      intro w' hSw
      go_simp
      try with_reducible rfl
     simp only [sA, sB, sC]
     refine zA 12 149 ?v12x56 (by rfl) (by kernel_rfl) (by kernel_rfl) (by kernel_rfl) (by kernel_rfl) (fun _ _ _ _ h => h) (by kernel_rfl) ?hy12x56 (by assumption) ?nx12x56
     case hy12x56 =>
      intro w' hSw
      go_simp
      try with_reducible rfl
     simp only [sA, sB, sC]
     refine zA 13 150 ?v13x57 (by rfl) (by kernel_rfl) (by kernel_rfl) (by kernel_rfl) (by kernel_rfl) (fun _ _ _ _ h => h) (by kernel_rfl) ?hy13x57 (by assumption) ?nx13x57
     case hy13x57 =>
      intro w' hSw
      go_simp
      try with_reducible rfl
     simp only [sA, sB, sC]
     refine zA 14 151 ?v14x58 (by rfl) (by kernel_rfl) (by kernel_rfl) (by kernel_rfl) (by kernel_rfl) (fun _ _ _ _ h => h) (by kernel_rfl) ?hy14x58 (by assumption) ?nx14x58
     case hy14x58 =>
      intro w' hSw
      go_simp
      try with_reducible rfl
     simp only [sA, sB, sC]
     refine zA 15 152 ?v15x59 (by rfl) (by kernel_rfl) (by kernel_rfl) (by kernel_rfl) (by kernel_rfl) (fun _ _ _ _ h => h) (by kernel_rfl) ?hy15x59 (by assumption) ?nx15x59
     case hy15x59 =>
      intro w' hSw
      go_simp
      try with_reducible rfl
     simp only [sA, sB, sC]
     refine wpAnyH_ready (rs := [16]) (by kernel_rfl) (by simp) (AllReadyH.cons (o := _) rfl (fun K hK => ?_) AllReadyH.nil)
     go_simp
     go_at_call 40
     refine HRES.out.mono ?_
     rintro e w5 hpost
     rcases hpost with ⟨⟨h, hmem, hha⟩, rfl, hb5⟩ | ⟨hno, rfl, ⟨v, hs5⟩, hf5⟩
     ·have HZ := zh (below_tr (below_drewN (Below.refl w4.heap.size w4) 1) hb5)
      have HAS := zh (show hasA (hs.map HV.a) a' = true from List.any_eq_true.2 ⟨h.a, List.mem_map_of_mem hmem, decide_eq_true hha⟩)
      have hA5 := HA4.out.fr (ts := []) (base := 0) (Fr.of_below HZ.out) (by simp)
      have g1 := cell_of_row w5 A 1 _ _ _ hA5
      have g2 := cell_of_row w5 A 2 _ _ _ hA5
      have g3 := cell_of_row w5 N 0 _ _ _ (row_on HZ.out HN4.out)
      clear hb5 hmem hha hA5
      refine hK.out _ _ ?_ (fun hHeld => ?_)
      ·exact ⟨g1, g2, g3⟩
      clear hK K
      try simp only [Act.put, sA, sB, sC]
      refine zA 17 136 ?v17x60 (by rfl) (by kernel_rfl) (by kernel_rfl) (by kernel_rfl) (by kernel_rfl) (fun _ _ _ _ h => h) (by kernel_rfl) ?hy17x60 (by assumption) ?nx17x60
      case hy17x60 =>
       intro w' hSw
       go_simp
       try with_reducible rfl
      simp only [sA, sB, sC]
      refine zA 18 154 ?v18x61 (by rfl) (by kernel_rfl) (by kernel_rfl) (by kernel_rfl) (by kernel_rfl) (fun _ _ _ _ h => h) (by kernel_rfl) ?hy18x61 (by assumption) ?nx18x61
      case hy18x61 =>
       intro w' hSw
       go_simp
       try with_reducible rfl
      simp only [sA, sB, sC]
      refine zA 19 155 ?v19x62 (by rfl) (by kernel_rfl) (by kernel_rfl) (by kernel_rfl) (by kernel_rfl) (fun _ _ _ _ h => h) (by kernel_rfl) ?hy19x62 (by assumption) ?nx19x62
      case hy19x62 =>
       intro w' hSw
       go_simp
       try with_reducible rfl
      simp only [sA, sB, sC]
      refine zA 20 23 ?v20x63 (by rfl) (by kernel_rfl) (by kernel_rfl) (by kernel_rfl) (by kernel_rfl) (fun _ _ _ _ h => h) (by kernel_rfl) ?hy20x63 (by assumption) ?nx20x63
      case hy20x63 =>
       intro w' hSw
       go_simp
       try with_reducible rfl
      simp only [sA, sB, sC]
      refine zA 21 24 ?v21x64 (by rfl) (by kernel_rfl) (by kernel_rfl) (by kernel_rfl) (by kernel_rfl) (fun _ _ _ _ h => h) (by kernel_rfl) ?hy21x64 (by assumption) ?nx21x64
      case hy21x64 =>
       intro w' hSw
       go_simp
       try with_reducible rfl
      simp only [sA, sB, sC]
      refine wpAnyH_done (by kernel_rfl) ?_ _
      refine NoPanic.normal ?_
      clear hHeld HRES f1 f2 f3 g1 g2 g3
      go_wp2_with fail
      go_roundg l'.length
      case rel => exact ⟨it', l', rfl, zh ⟨HIT4.out.fr (ts := []) (base := 0) (Fr.of_below HZ.out) (by simp), HSRC'.out, HG4.out.trans (Fr.of_below HZ.out), by
       rw [HFD.out, List.find?_cons]
       simp [HAS.out]⟩⟩
      case measure => simp
     ·have HAS := zh (show hasA (hs.map HV.a) a' = false from List.any_eq_false.2 (fun x hx => by
       obtain ⟨h, hm, rfl⟩ := List.mem_map.1 hx
       simpa using hno h hm))
      have HFREE := zh (show freeR Rs (hs.map HV.a) al L = some (i', a') by
       unfold freeR
       rw [if_neg (by rw [HALL.out]; decide), HFD.out, List.find?_cons]
       simp [HAS.out])
      have HF5 := zh (show Fr tS base w4 w5 from (Fr.of_below (below_drewN (Below.refl _ _) 1)).trans hf5)
      have HS5 := zh hs5
      have hA5 := HA4.out.fr HF5.out (by decide)
      have g1 := cell_of_row w5 A 1 _ _ _ hA5
      have g2 := cell_of_row w5 A 2 _ _ _ hA5
      have hn5 := HF5.out.rows _ _ _ _ HN4.out (by decide)
      have g3 := cell_of_row w5 N 0 _ _ _ hn5
      have g4 := cell_of_row w5 N 1 _ _ _ hn5
      clear hno hs5 hf5 hA5 hn5
      refine hK.out _ _ ?_ (fun hHeld => ?_)
      ·exact ⟨g1, g2, g3⟩
      clear hK K
      try simp only [Act.put, sA, sB, sC]
      refine zA 17 136 ?v17x65 (by rfl) (by kernel_rfl) (by kernel_rfl) (by kernel_rfl) (by kernel_rfl) (fun _ _ _ _ h => h) (by kernel_rfl) ?hy17x65 (by assumption) ?nx17x65
      case hy17x65 =>
       intro w' hSw
       go_simp
       try with_reducible rfl
      simp only [sA, sB, sC]
      refine zA 18 154 ?v18x66 (by rfl) (by kernel_rfl) (by kernel_rfl) (by kernel_rfl) (by kernel_rfl) (fun _ _ _ _ h => h) (by kernel_rfl) ?hy18x66 (by assumption) ?nx18x66
      case hy18x66 =>
       intro w' hSw
       go_simp
       try with_reducible rfl
      simp only [sA, sB, sC]
      refine zA 19 155 ?v19x67 (by rfl) (by kernel_rfl) (by kernel_rfl) (by kernel_rfl) (by kernel_rfl) (fun _ _ _ _ h => h) (by kernel_rfl) ?hy19x67 (by assumption) ?nx19x67
      case hy19x67 =>
       intro w' hSw
       go_simp
       try with_reducible rfl
      simp only [sA, sB, sC]
      refine zA 20 23 ?v20x68 (by rfl) (by kernel_rfl) (by kernel_rfl) (by kernel_rfl) (by kernel_rfl) (fun _ _ _ _ h => h) (by kernel_rfl) ?hy20x68 (by assumption) ?nx20x68
      case hy20x68 =>
       intro w' hSw
       go_simp
       try with_reducible rfl
      simp only [sA, sB, sC]
      refine zA 21 24 ?v21x69 (by rfl) (by kernel_rfl) (by kernel_rfl) (by kernel_rfl) (by kernel_rfl) (fun _ _ _ _ h => h) (by kernel_rfl) ?hy21x69 (by assumption) ?nx21x69
      case hy21x69 =>
       intro w' hSw
       go_simp
       try with_reducible rfl
      simp only [sA, sB, sC]
      refine wpAnyH_done (by kernel_rfl) ?_ _
      refine NoPanic.normal ?_
      clear hHeld HRES f1 f2 f3 g1 g2
      go_wp2_with fail
      refine leaves_cons (f := 205) (args := #[.pointer (some ⟨T, 0, none⟩)]) (by simp) (by simp [go_sem, hm2]) ?_
      refine (zM T _ _).mono ?_
      rintro e u' w'' ⟨rfl, rfl, rfl⟩
      simp [Leaves, settle, results, Tryz.results72, go_sem]
      rw [HFREE.out]
      have hb := (Below.refl w5.heap.size w5).alloc (Nat.le_refl _) (.cells #[.slice (some ⟨ba, oa, none⟩) na ca, .slice bm nm cm, .slice b4 n4 c4] 134)
      obtain ⟨m1, m2, m3, m4⟩ := HM4.out
      exact ⟨(HF4.out.trans (HF5.out.mono (fun t ht => by simp [tS] at ht; simp [tG]; omega))).trans (Fr.of_below hb), ⟨v, HS5.out.on hb⟩, _, _, _, _, R', m4, rfl, heap_alloc_new w5 _, (m1.stay HF5.out.bk).keep hb, IPAt.keep (IPAt.stay m2 HF5.out.bk) hb, BriefAt.keep (IPAt.stay m3 HF5.out.bk) hb⟩
structure Ent where
 a : Ad
 id : ByteArray
 at_ : ByteArray
def HV.ent (h : HV) : Ent := ⟨h.a, h.id, h.at_⟩
structure Desk where
 held : List Ent
 last : Option Ad
structure OpIn where
 kind : Nat
 id : ByteArray
 at_ : ByteArray
 asked : ByteArray
 ad : Option Ad
structure Giv where
 addr : List UInt8
 gate : List UInt8
 ok : Bool
def Giv.val (g : Giv) : Value := .agg #[.string ⟨g.addr.toArray⟩, .string ⟨g.gate.toArray⟩, .bool g.ok]
def Giv.no : Giv := ⟨[], [], false⟩
def Desk.ads (d : Desk) : List Ad := d.held.map Ent.a
def mineE (es : List Ent) (id at_ : ByteArray) : List Ad := (es.filter fun e => whoB e.id e.at_ id at_).map Ent.a
def Desk.got (d : Desk) (id at_ : ByteArray) (r : Option (Nat × Ad)) : Desk := match r with
 | none => d
 | some (_, a) => ⟨d.held ++ [⟨a, id, at_⟩], some a⟩
def getR (Rs : List RIn) (rd : Option Ad → List (Nat × Ad)) (d : Desk) (id at_ : ByteArray) (ad : Option Ad) : Option (Nat × Ad) := match ad with
 | some a => askR Rs d.ads a
 | none => freeR Rs d.ads (mineE d.held id at_) (rd d.last)
def givR (Rs : List RIn) (r : Option (Nat × Ad)) : Giv := match r with
 | none => Giv.no
 | some (i, a) => match Rs[i]? with
  | none => Giv.no
  | some R => ⟨netL a R.free, (zE R).text, true⟩
def stepD (Rs : List RIn) (rd : Option Ad → List (Nat × Ad)) (d : Desk) (o : OpIn) : Giv × Desk := match o.kind with
 | 0 => (givR Rs (getR Rs rd d o.id o.at_ o.ad), d.got o.id o.at_ (getR Rs rd d o.id o.at_ o.ad))
 | 1 => (⟨[], [], true⟩, ⟨d.held.filter fun e => !whoB e.id e.at_ o.id o.at_, d.last⟩)
 | _ => (⟨Lib.join ((mineE d.held o.id o.at_).map Ad.text) [44], [], decide (0 < (mineE d.held o.id o.at_).length)⟩, d)
structure Rd (Rs : List RIn) (rd : Option Ad → List (Nat × Ad)) : Prop where
 src : ∀ last, (∀ a, last = some a → a.ok) → Src Rs (iter0 Rs last) (rd last)
 mem : ∀ last i a, (i, a) ∈ rd last → ∃ R, Rs[i]? = some R ∧ inR R a = true
structure OpOK (o : OpIn) : Prop where
 k : o.kind ≤ 2
 no : o.ad = none → o.asked = ⟨#[]⟩
 yes : ∀ a, o.ad = some a → readL (bl o.asked) = some a ∧ a.ok ∧ o.asked.size ≤ 64 ∧ o.asked.toList.isEmpty = false
def StoD (w : World) (base T : Nat) (d : Desk) : Prop := ∃ hs, hs.map HV.ent = d.held ∧ Sto w base T hs d.last
theorem StoD.fr {ts : List Nat} {base T : Nat} {d : Desk} {w w' : World} (h : StoD w base T d) (hf : Fr ts base w w') (h1 : 109 ∉ ts) (h2 : 96 ∉ ts) : StoD w' base T d := by
 obtain ⟨hs, he, hs'⟩ := h
 exact ⟨hs, he, hs'.fr hf h1 h2⟩
theorem StoD.on {base T : Nat} {d : Desk} {w w' : World} (h : StoD w base T d) (hb : Below w.heap.size w w') : StoD w' base T d :=
 h.fr (ts := []) (Fr.of_below hb) (by simp) (by simp)
theorem zfI {hs : List HV} {es : List Ent} (h : hs.map HV.ent = es) : hs.map HV.a = es.map Ent.a := by
 rw [← h, List.map_map]; rfl
theorem zhY {hs : List HV} {es : List Ent} (h : hs.map HV.ent = es) (id at_ : ByteArray) : byWho hs id at_ = mineE es id at_ := by
 unfold byWho mineE
 rw [← h, List.filter_map, List.map_map]
 rfl
theorem zgJ {hs : List HV} {es : List Ent} (h : hs.map HV.ent = es) (id at_ : ByteArray) : (zU hs id at_).map HV.ent = es.filter fun e => !whoB e.id e.at_ id at_ := by
 unfold zU
 rw [← h, List.filter_map]
 rfl
theorem zeR {R : RIn} {a : Ad} (h : inR R a = true) : a.six = R.a.six := by
 unfold inR hasB at h
 simp only [Bool.and_eq_true, beq_iff_eq] at h
 exact h.1.1
theorem zhZ {Rs : List RIn} {al : List Ad} {a : Ad} {i : Nat} {b : Ad} (h : askR Rs al a = some (i, b)) : b = a ∧ ∃ R, Rs[i]? = some R ∧ inR R a = true := by
 unfold askR at h
 cases hf : Rs.findIdx? fun R => inR R a with
 | none => rw [hf] at h; cases h
 | some j =>
  rw [hf] at h
  simp only at h
  split at h
  ·cases h
  ·split at h
   ·cases h
   ·cases h
    obtain ⟨hj, hp, _⟩ := List.findIdx?_eq_some_iff_getElem.1 hf
    exact ⟨rfl, _, List.getElem?_eq_getElem hj, hp⟩
theorem zkI {Rs : List RIn} {al mine : List Ad} {L : List (Nat × Ad)} {p : Nat × Ad} (h : freeR Rs al mine L = some p) : p ∈ L := by
 unfold freeR at h
 split at h
 ·cases h
 ·exact List.mem_of_find?_eq_some h
theorem zcV {Rs : List RIn} {rd : Option Ad → List (Nat × Ad)} (hrd : Rd Rs rd) {d : Desk} {id at_ : ByteArray} {ad : Option Ad} {i : Nat} {a : Ad} (h : getR Rs rd d id at_ ad = some (i, a)) : ∃ R, Rs[i]? = some R ∧ inR R a = true := by
 unfold getR at h
 cases ad with
 | none => exact hrd.mem _ _ _ (zkI h)
 | some b =>
  obtain ⟨rfl, hr⟩ := zhZ h
  exact hr
def GetD (w : World) (base T : Nat) (Rs : List RIn) (d' : Desk) (r : Option (Nat × Ad)) (e : Ending) (w' : World) : Prop :=
 Fr tG base w w' ∧ StoD w' base T d' ∧ match r with
 | none => ∃ b, e = .returned (.tuple #[.pointer none, .iface 203 (.pointer (some ⟨b, 0, none⟩))])
 | some (i, a) => ∃ C va vm v4 R, Rs[i]? = some R ∧ inR R a = true ∧ e = .returned (.tuple #[.pointer (some ⟨C, 0, none⟩), .nilIface]) ∧
   w'.heap[C]? = some (.cells #[va, vm, v4] 134 (0, 0)) ∧ AdAt w' va a ∧ IPAt w' vm (a.mask R.free) ∧ BriefAt w' v4 (zE R)
theorem zcU.toD {w w' : World} {base T : Nat} {hs : List HV} {d : Desk} {Rs : List RIn} {id at_ : ByteArray} {r : Option (Nat × Ad)} {e : Ending} (h : zcU w base T hs d.last Rs id at_ r e w') (he : hs.map HV.ent = d.held) (hr : ∀ i a, r = some (i, a) → ∃ R, Rs[i]? = some R ∧ inR R a = true) : GetD w base T Rs (d.got id at_ r) r e w' := by
 obtain ⟨hf, h⟩ := h
 cases r with
 | none =>
  obtain ⟨h1, b, h2⟩ := h
  exact ⟨hf, ⟨hs, he, h1⟩, b, h2⟩
 | some p =>
  obtain ⟨i, a⟩ := p
  obtain ⟨⟨v, h1⟩, C, va, vm, v4, R, h2, h3, h4, h5, h6, h7⟩ := h
  obtain ⟨R', h8, h9⟩ := hr i a rfl
  obtain rfl : R = R' := by rw [h2] at h8; exact Option.some.inj h8
  refine ⟨hf, ⟨hs ++ [⟨v, a, id, at_⟩], by rw [List.map_append, he]; rfl, h1⟩, C, va, vm, v4, R, h2, h9, h3, h4, h5, ?_, h7⟩
  have : a.mask R.free = R.a.mask R.free := by
   have h10 := zeR h9
   unfold Ad.mask Ad.width
   rw [h10]
  rw [this]
  exact h6
theorem ziA (base T : Nat) (d : Desk) (SV g cap : Nat) (Rs : List RIn) (A : Nat) (rid id at_ : ByteArray) (rd : Option Ad → List (Nat × Ad)) (v : Value) (ad : Option Ad) (w : World) (hsto : StoD w base T d) (hset : SetH base w SV g cap Rs) (hA : zS w A SV T rid) (hrd : Rd Rs rd) (hv : OptAt w v ad) (ok : ∀ a, ad = some a → a.ok) (hne : 0 < Rs.length) (hn : d.held.length ≤ 1000) (hB : base ≤ w.heap.size) :
  Calls Tryz.prog 72 #[.pointer (some ⟨A, 0, none⟩), .string id, .string at_, v] w (GetD w base T Rs (d.got id at_ (getR Rs rd d id at_ ad)) (getR Rs rd d id at_ ad)) := by
 obtain ⟨hs, he, hs'⟩ := hsto
 have hl : hs.length ≤ 1000 := by rw [← he, List.length_map] at hn; exact hn
 cases ad with
 | none =>
  obtain rfl : v = .slice none 0 0 := hv
  refine (zkH base T hs d.last SV g cap Rs A rid id at_ (rd d.last) w hs' hset hA (hrd.src _ hs'.lok) hne hl hB).mono ?_
  intro e w' h
  rw [zfI he, zhY he] at h
  exact h.toD he (fun i a hr => zcV (rd := rd) (d := d) (id := id) (at_ := at_) (ad := none) hrd hr)
 | some a =>
  refine (zhX base T hs d.last SV g cap Rs A rid id at_ v a w hs' hset hA hv (ok a rfl) hl hB).mono ?_
  intro e w' h
  rw [zfI he] at h
  exact h.toD he (fun i b hr => zcV (rd := rd) (d := d) (id := id) (at_ := at_) (ad := some a) hrd hr)
def RelD (w : World) (base T : Nat) (d' : Desk) (e : Ending) (w' : World) : Prop := e = .returned .nilIface ∧ StoD w' base T d' ∧ Fr tG base w w'
theorem zdN (base T : Nat) (d : Desk) (A SV : Nat) (rid id at_ : ByteArray) (w : World) (hsto : StoD w base T d) (hA : zS w A SV T rid) :
  Calls Tryz.prog 73 #[.pointer (some ⟨A, 0, none⟩), .string id, .string at_] w (RelD w base T ⟨d.held.filter fun e => !whoB e.id e.at_ id at_, d.last⟩) := by
 obtain ⟨hs, he, hs'⟩ := hsto
 refine (zeQ base T hs d.last A SV rid id at_ w hs' hA).mono ?_
 rintro e w' ⟨rfl, h1, h2⟩
 exact ⟨rfl, ⟨_, zgJ he id at_, h1⟩, h2.mono (fun t ht => by simp [tS] at ht; simp [tG]; omega)⟩
theorem zdO (base T : Nat) (d : Desk) (id at_ : ByteArray) (w : World) (h : StoD w base T d) (hn : d.held.length ≤ 1000) :
  Calls Tryz.prog 74 #[.pointer (some ⟨T, 0, none⟩), .string id, .string at_] w (zhP w (mineE d.held id at_)) := by
 obtain ⟨hs, he, hs'⟩ := h
 rw [← zhY he]
 exact zbP base T hs d.last id at_ w hs' (by rw [← he, List.length_map] at hn; exact hn)
theorem StoD.oks {w : World} {base T : Nat} {d : Desk} (h : StoD w base T d) : ∀ e ∈ d.held, e.a.ok := by
 obtain ⟨hs, he, hs'⟩ := h
 intro e hm
 rw [← he] at hm
 obtain ⟨x, hx, rfl⟩ := List.mem_map.1 hm
 exact hs'.oks x hx
structure Rng (R : RIn) : Prop where
 s6 : (zB R).six = R.a.six
 l6 : (zC R).six = R.a.six
 le : (zB R).n ≤ (zC R).n
theorem Good.rng {R : RIn} (h : Good R) : Rng R := by
 obtain ⟨_, h1, _, h2, _, h3⟩ := zcC h.g h.ok
 exact ⟨h1, h3, h2⟩
def adsOf (R : RIn) : List Ad := (List.range ((zC R).n - (zB R).n + 1)).map fun j => ⟨R.a.six, (zB R).n + j⟩
theorem zQ (R : RIn) : (adsOf R).length = (zC R).n - (zB R).n + 1 := by simp [adsOf]
theorem yQ (R : RIn) (j : Nat) (h : j < (zC R).n - (zB R).n + 1) : (adsOf R)[j]? = some ⟨R.a.six, (zB R).n + j⟩ := by
 unfold adsOf
 rw [List.getElem?_map, List.getElem?_range h]
 rfl
def zF : Nat → List RIn → List (Nat × Ad)
 | _, [] => []
 | k, R :: l => (adsOf R).map (fun a => (k, a)) ++ zF (k + 1) l
theorem Ad.eq' {a b : Ad} (h : a.six = b.six) (hn : a.n = b.n) : a = b := by
 cases a; cases b; simp at h hn; rw [h, hn]
theorem yM (k : Nat) (R : RIn) (l : List RIn) (h : Rng R) : (zF k (R :: l))[0]? = some (k, zB R) := by
 unfold zF
 rw [List.getElem?_append_left (by rw [List.length_map, zQ]; omega), List.getElem?_map, yQ R 0 (by omega)]
 exact congrArg (fun a => some (k, a)) (Ad.eq' h.s6.symm (Nat.add_zero _))
theorem zdP (l : List RIn) : ∀ (k j : Nat) (p q : Nat × Ad), (∀ R ∈ l, Rng R) → (zF k l)[j]? = some p → (zF k l)[j + 1]? = some q →
  ∃ R, k ≤ p.1 ∧ l[p.1 - k]? = some R ∧ ((p.2 ≠ zC R ∧ q = (p.1, p.2.up)) ∨ (p.2 = zC R ∧ ∃ R', l[p.1 + 1 - k]? = some R' ∧ q = (p.1 + 1, zB R'))) := by
 induction l with
 | nil => intro k j p q _ h; cases h
 | cons R l ih =>
  intro k j p q hr hp hq
  have hR := hr R (by simp)
  unfold zF at hp hq
  have hm : ((adsOf R).map fun a => (k, a)).length = (zC R).n - (zB R).n + 1 := by rw [List.length_map, zQ]
  by_cases h1 : j + 1 < (zC R).n - (zB R).n + 1
  ·rw [List.getElem?_append_left (by omega), List.getElem?_map, yQ R j (by omega)] at hp
   rw [List.getElem?_append_left (by omega), List.getElem?_map, yQ R (j + 1) h1] at hq
   cases hp
   cases hq
   refine ⟨R, Nat.le_refl _, by simp, .inl ⟨fun e => ?_, rfl⟩⟩
   have := congrArg Ad.n e
   simp at this
   omega
  ·by_cases h2 : j + 1 = (zC R).n - (zB R).n + 1
   ·rw [List.getElem?_append_left (by omega), List.getElem?_map, yQ R j (by omega)] at hp
    rw [List.getElem?_append_right (by omega), hm, show j + 1 - ((zC R).n - (zB R).n + 1) = 0 by omega] at hq
    cases hp
    cases l with
    | nil => cases hq
    | cons R' l =>
     rw [yM (k + 1) R' l (hr R' (by simp))] at hq
     cases hq
     have := hR.le
     exact ⟨R, Nat.le_refl _, by simp, .inr ⟨Ad.eq' hR.l6.symm (by show (zB R).n + j = _; omega), R', by simp, rfl⟩⟩
   ·rw [List.getElem?_append_right (by omega), hm] at hp hq
    rw [show j + 1 - ((zC R).n - (zB R).n + 1) = j - ((zC R).n - (zB R).n + 1) + 1 by omega] at hq
    obtain ⟨Q, h3, h4, h5⟩ := ih (k + 1) _ p q (fun x hx => hr x (by simp [hx])) hp hq
    refine ⟨Q, by omega, ?_, ?_⟩
    ·rw [show p.1 - k = p.1 - (k + 1) + 1 by omega, List.getElem?_cons_succ]
     exact h4
    ·rcases h5 with h5 | ⟨h5, R', h6, h7⟩
     ·exact .inl h5
     ·refine .inr ⟨h5, R', ?_, h7⟩
      rw [show p.1 + 1 - k = p.1 + 1 - (k + 1) + 1 by omega, List.getElem?_cons_succ]
      exact h6
theorem zdQ (l : List RIn) : ∀ (k : Nat), (∀ R ∈ l, Rng R) → 0 < l.length → ∃ R, l[l.length - 1]? = some R ∧ (zF k l)[(zF k l).length - 1]? = some (k + (l.length - 1), zC R) := by
 induction l with
 | nil => intro k _ h; simp at h
 | cons R l ih =>
  intro k hr _
  have hR := hr R (by simp)
  have hm : ((adsOf R).map fun a => (k, a)).length = (zC R).n - (zB R).n + 1 := by rw [List.length_map, zQ]
  cases l with
  | nil =>
   refine ⟨R, rfl, ?_⟩
   unfold zF
   rw [show zF (k + 1) [] = [] from rfl, List.append_nil, hm, List.getElem?_map, yQ R _ (by omega)]
   have := hR.le
   exact congrArg (fun a => some (k, a)) (Ad.eq' hR.l6.symm (by show (zB R).n + _ = _; omega))
  | cons R' l =>
   obtain ⟨Q, h1, h2⟩ := ih (k + 1) (fun x hx => hr x (by simp [hx])) (by simp)
   refine ⟨Q, by simpa using h1, ?_⟩
   have hpos : 0 < (zF (k + 1) (R' :: l)).length := by
    have := (List.getElem?_eq_some_iff.1 (yM (k + 1) R' l (hr R' (by simp)))).1
    exact this
   rw [zF, List.getElem?_append_right (by rw [List.length_append]; omega), List.length_append]
   rw [show ((adsOf R).map fun a => (k, a)).length + (zF (k + 1) (R' :: l)).length - 1 - ((adsOf R).map fun a => (k, a)).length = (zF (k + 1) (R' :: l)).length - 1 by omega, h2]
   simp
   omega
theorem zaG {R : RIn} {a : Ad} : inR R a = true ↔ a.six = R.a.six ∧ (zB R).n ≤ a.n ∧ a.n ≤ (zC R).n := by
 unfold inR hasB
 simp only [Bool.and_eq_true, beq_iff_eq, decide_eq_true_eq]
 exact ⟨fun ⟨⟨h1, h2⟩, h3⟩ => ⟨h1, h2, h3⟩, fun ⟨h1, h2, h3⟩ => ⟨⟨h1, h2⟩, h3⟩⟩
theorem zbV {R : RIn} {a : Ad} (h : Rng R) : a ∈ adsOf R ↔ inR R a = true := by
 have hle := h.le
 rw [zaG]
 unfold adsOf
 simp only [List.mem_map, List.mem_range]
 constructor
 ·rintro ⟨j, hj, rfl⟩
  exact ⟨rfl, by show _ ≤ (zB R).n + j; omega, by show (zB R).n + j ≤ _; omega⟩
 ·rintro ⟨h1, h2, h3⟩
  exact ⟨a.n - (zB R).n, by omega, Ad.eq' h1.symm (by show (zB R).n + _ = _; omega)⟩
theorem zZ (l : List RIn) : ∀ (k i : Nat) (a : Ad), (∀ R ∈ l, Rng R) → (i, a) ∈ zF k l → ∃ R, k ≤ i ∧ l[i - k]? = some R ∧ inR R a = true := by
 induction l with
 | nil => intro k i a _ h; cases h
 | cons R l ih =>
  intro k i a hr h
  unfold zF at h
  rcases List.mem_append.1 h with h | h
  ·obtain ⟨b, hb, he⟩ := List.mem_map.1 h
   cases he
   exact ⟨R, Nat.le_refl _, by simp, (zbV (hr R (by simp))).1 hb⟩
  ·obtain ⟨Q, h1, h2, h3⟩ := ih (k + 1) i a (fun x hx => hr x (by simp [hx])) h
   exact ⟨Q, by omega, by rw [show i - k = i - (k + 1) + 1 by omega, List.getElem?_cons_succ]; exact h2, h3⟩
theorem zeS (l : List RIn) : ∀ (k j : Nat) (R : RIn) (a : Ad), (∀ R ∈ l, Rng R) → l[j]? = some R → inR R a = true → (k + j, a) ∈ zF k l := by
 induction l with
 | nil => intro k j R a _ h; cases h
 | cons Q l ih =>
  intro k j R a hr h ha
  unfold zF
  cases j with
  | zero =>
   obtain rfl : Q = R := by simpa using h
   exact List.mem_append_left _ (List.mem_map.2 ⟨a, (zbV (hr Q (by simp))).2 ha, rfl⟩)
  | succ j =>
   have := ih (k + 1) j R a (fun x hx => hr x (by simp [hx])) (by simpa using h) ha
   rw [show k + 1 + j = k + (j + 1) by omega] at this
   exact List.mem_append_right _ this
theorem Good.ads {R : RIn} (h : Good R) {a : Ad} (ha : inR R a = true) : a.ok := by
 obtain ⟨h1, h2, h3⟩ := zaG.1 ha
 have hl := (yB h.k.oa h.k.room h.k.k1 h.k.k2 h.ok).2
 have h6 := h.rng.l6
 unfold Ad.ok at hl ⊢
 rw [h1, ← h6]
 omega
theorem zdR (Rs : List RIn) (hg : ∀ R ∈ Rs, Good R) (k : Nat) (p q : Nat × Ad) (hp : (zF 0 Rs)[k]? = some p) (hq : (zF 0 Rs)[(k + 1) % (zF 0 Rs).length]? = some q) : StepR Rs p.1 p.2 q.1 q.2 := by
 have hr : ∀ R ∈ Rs, Rng R := fun R hR => (hg R hR).rng
 have hk := (List.getElem?_eq_some_iff.1 hp).1
 by_cases h1 : k + 1 < (zF 0 Rs).length
 ·rw [Nat.mod_eq_of_lt h1] at hq
  obtain ⟨R, _, hR, h⟩ := zdP Rs 0 k p q hr hp hq
  rw [Nat.sub_zero] at hR
  rcases h with ⟨hne, rfl⟩ | ⟨he, R', hR', rfl⟩
  ·obtain ⟨Q, _, hQ, hin⟩ := zZ Rs 0 p.1 p.2.up hr (List.mem_of_getElem? hq)
   exact StepR.up hR hne ((hg Q (List.mem_of_getElem? hQ)).ads hin)
  ·rw [Nat.sub_zero] at hR'
   have hlt := (List.getElem?_eq_some_iff.1 hR').1
   have := StepR.wrap (Rs := Rs) (i := p.1) hR (R' := R') (by rw [Nat.mod_eq_of_lt hlt]; exact hR')
   rw [Nat.mod_eq_of_lt hlt, ← he] at this
   exact this
 ·obtain rfl : k = (zF 0 Rs).length - 1 := by omega
  have hne : 0 < Rs.length := by
   cases Rs with
   | nil => cases hp
   | cons _ _ => simp
  obtain ⟨R, hR, hlast⟩ := zdQ Rs 0 hr hne
  rw [hp] at hlast
  cases hlast
  rw [show (zF 0 Rs).length - 1 + 1 = (zF 0 Rs).length by omega, Nat.mod_self] at hq
  cases Rs with
  | nil => simp at hne
  | cons Q l =>
   rw [yM 0 Q l (hr Q (by simp))] at hq
   cases hq
   rw [Nat.zero_add]
   have h0 : ((Q :: l).length - 1 + 1) % (Q :: l).length = 0 := by rw [show (Q :: l).length - 1 + 1 = (Q :: l).length by simp, Nat.mod_self]
   have := StepR.wrap (Rs := Q :: l) (i := (Q :: l).length - 1) hR (R' := Q) (by rw [h0]; rfl)
   rw [h0] at this
   exact this
theorem zfJ {Rs : List RIn} {it0 it1 : It} {l : List (Nat × Ad)} (h : ∀ it' r, NextR Rs it1 it' r → NextR Rs it0 it' r) (hs : Src Rs it1 l) : Src Rs it0 l := by
 cases hs with
 | nil hn => exact Src.nil (h _ _ hn)
 | cons hn hs => exact Src.cons (h _ _ hn) hs
def nonG (Rs : List RIn) (p : Nat × Ad) : Bool := decide (Rs[p.1]?.map zE ≠ some p.2)
structure Rnd (Rs : List RIn) (M : List (Nat × Ad)) : Prop where
 step : ∀ (k : Nat) (p q : Nat × Ad), M[k]? = some p → M[(k + 1) % M.length]? = some q → StepR Rs p.1 p.2 q.1 q.2
 dist : ∀ (j k : Nat) (p q : Nat × Ad), M[j]? = some p → M[k]? = some q → p.2 = q.2 → j = k
 rng : ∀ p ∈ M, ∃ R, Rs[p.1]? = some R
theorem xW {Rs : List RIn} {p : Nat × Ad} {R : RIn} (hR : Rs[p.1]? = some R) : nonG Rs p = true ↔ p.2 ≠ zE R := by
 unfold nonG
 rw [hR]
 simp only [Option.map_some, decide_eq_true_eq]
 exact ⟨fun h e => h (by rw [e]), fun h e => h (Option.some.inj e).symm⟩
theorem zkJ {Rs : List RIn} {M : List (Nat × Ad)} (h : Rnd Rs M) (p0 : Nat × Ad) (h0 : M[0]? = some p0) : ∀ (m k : Nat) (p : Nat × Ad), M[k]? = some p → M.length - k = m + 1 → Src Rs ⟨p.1, some p.2, some p0.2⟩ ((M.drop (k + 1)).filter (nonG Rs)) := by
 intro m
 induction m with
 | zero =>
  intro k p hp hm
  rw [List.drop_of_length_le (by omega)]
  exact Src.nil (NextR.stop (h.step k p p0 hp (by rw [show k + 1 = M.length by omega, Nat.mod_self]; exact h0)))
 | succ m ih =>
  intro k p hp hm
  have hlt : k + 1 < M.length := by omega
  obtain ⟨q, hq⟩ : ∃ q, M[k + 1]? = some q := ⟨_, List.getElem?_eq_getElem hlt⟩
  have hd : M.drop (k + 1) = q :: M.drop (k + 2) := by
   rw [List.drop_eq_getElem_cons hlt]
   rw [List.getElem?_eq_getElem hlt] at hq
   rw [Option.some.inj hq]
  have hs := h.step k p q hp (by rw [Nat.mod_eq_of_lt hlt]; exact hq)
  have hne : some p0.2 ≠ some q.2 := fun e => by
   have := h.dist 0 (k + 1) p0 q h0 hq (Option.some.inj e)
   omega
  obtain ⟨R, hR⟩ := h.rng q (List.mem_of_getElem? hq)
  have hi := ih (k + 1) q hq (by omega)
  rw [hd]
  by_cases hG : nonG Rs q = true
  ·rw [List.filter_cons_of_pos hG]
   exact Src.cons (NextR.go hs hne hR ((xW hR).1 hG)) hi
  ·rw [List.filter_cons_of_neg hG]
   have hgt : q.2 = zE R := Classical.byContradiction fun hc => hG ((xW hR).2 hc)
   exact zfJ (fun it' r hn => NextR.goGate hs hne hR hgt hn) hi
theorem zfK {Rs : List RIn} {M : List (Nat × Ad)} (h : Rnd Rs M) (p0 : Nat × Ad) (h0 : M[0]? = some p0) (it : It) (h1 : ∀ R, Rs[p0.1]? = some R → p0.2 ≠ zE R → NextR Rs it ⟨p0.1, some p0.2, some p0.2⟩ (some p0)) (h2 : ∀ R, Rs[p0.1]? = some R → p0.2 = zE R → ∀ it' r, NextR Rs ⟨p0.1, some p0.2, some p0.2⟩ it' r → NextR Rs it it' r) : Src Rs it (M.filter (nonG Rs)) := by
 have hlt := (List.getElem?_eq_some_iff.1 h0).1
 have hd : M = p0 :: M.drop 1 := by
  cases M with
  | nil => cases h0
  | cons x l =>
   obtain rfl : x = p0 := by simpa using h0
   rfl
 obtain ⟨R, hR⟩ := h.rng p0 (List.mem_of_getElem? h0)
 have ht := zkJ h p0 h0 (M.length - 1) 0 p0 h0 (by omega)
 rw [hd]
 by_cases hG : nonG Rs p0 = true
 ·rw [List.filter_cons_of_pos hG]
  exact Src.cons (h1 R hR ((xW hR).1 hG)) ht
 ·rw [List.filter_cons_of_neg hG]
  exact zfJ (h2 R hR (Classical.byContradiction fun hc => hG ((xW hR).2 hc))) ht
def Dis (Rs : List RIn) : Prop := ∀ (i j : Nat) (R Q : RIn) (a : Ad), Rs[i]? = some R → Rs[j]? = some Q → inR R a = true → inR Q a = true → i = j
theorem zaP (l : List RIn) : ∀ (k : Nat), (∀ R ∈ l, Rng R) → Dis l → ∀ (j m : Nat) (p q : Nat × Ad), (zF k l)[j]? = some p → (zF k l)[m]? = some q → p.2 = q.2 → j = m := by
 induction l with
 | nil => intro k _ _ j m p q h; cases h
 | cons R l ih =>
  intro k hr hd j m p q hp hq e
  have hR := hr R (by simp)
  have hm : ((adsOf R).map fun a => (k, a)).length = (zC R).n - (zB R).n + 1 := by rw [List.length_map, zQ]
  have far : ∀ (x y : Nat × Ad) (a b : Nat), ((adsOf R).map fun a => (k, a))[a]? = some x → (zF (k + 1) l)[b]? = some y → x.2 = y.2 → False := by
   intro x y a b hx hy hxy
   obtain ⟨c, hc, rfl⟩ := List.mem_map.1 (List.mem_of_getElem? hx)
   obtain ⟨Q, _, h2, h3⟩ := zZ l (k + 1) y.1 y.2 (fun z hz => hr z (by simp [hz])) (List.mem_of_getElem? hy)
   have := hd 0 (y.1 - (k + 1) + 1) R Q c rfl (by rw [List.getElem?_cons_succ]; exact h2) ((zbV hR).1 hc) (by rw [show c = y.2 from hxy]; exact h3)
   omega
  unfold zF at hp hq
  by_cases h1 : j < (zC R).n - (zB R).n + 1
  ·rw [List.getElem?_append_left (by omega)] at hp
   by_cases h2 : m < (zC R).n - (zB R).n + 1
   ·rw [List.getElem?_append_left (by omega)] at hq
    rw [List.getElem?_map, yQ R j h1] at hp
    rw [List.getElem?_map, yQ R m h2] at hq
    cases hp
    cases hq
    have := congrArg Ad.n e
    simp at this
    exact this
   ·rw [List.getElem?_append_right (by omega)] at hq
    exact (far _ _ _ _ hp hq e).elim
  ·rw [List.getElem?_append_right (by omega)] at hp
   by_cases h2 : m < (zC R).n - (zB R).n + 1
   ·rw [List.getElem?_append_left (by omega)] at hq
    exact (far _ _ _ _ hq hp e.symm).elim
   ·rw [List.getElem?_append_right (by omega)] at hq
    have := ih (k + 1) (fun z hz => hr z (by simp [hz])) (fun i j' R' Q a hi hj hx hy => by
     have := hd (i + 1) (j' + 1) R' Q a (by rw [List.getElem?_cons_succ]; exact hi) (by rw [List.getElem?_cons_succ]; exact hj) hx hy
     omega) _ _ p q hp hq e
    omega
theorem zeT {f k n : Nat} (hf : f < n) (hk : k < n) : (f + k) % n = if f + k < n then f + k else f + k - n := by
 split
 ·exact Nat.mod_eq_of_lt (by assumption)
 ·rw [Nat.mod_eq_sub_mod (by omega), Nat.mod_eq_of_lt (by omega)]
theorem zdS {α : Type} (L : List α) (f k : Nat) (hf : f < L.length) (hk : k < L.length) : (L.drop f ++ L.take f)[k]? = L[(f + k) % L.length]? := by
 rw [zeT hf hk]
 split
 ·rw [List.getElem?_append_left (by rw [List.length_drop]; omega), List.getElem?_drop]
 ·rw [List.getElem?_append_right (by rw [List.length_drop]; omega), List.length_drop, List.getElem?_take_of_lt (by omega)]
  congr 1
  omega
theorem Rnd.rot {Rs : List RIn} {L : List (Nat × Ad)} (h : Rnd Rs L) (f : Nat) (hf : f < L.length) : Rnd Rs (L.drop f ++ L.take f) := by
 have hl : (L.drop f ++ L.take f).length = L.length := by rw [List.length_append, List.length_drop, List.length_take]; omega
 refine ⟨fun k p q hp hq => ?_, fun j k p q hp hq e => ?_, fun p hp => ?_⟩
 ·have hk := (List.getElem?_eq_some_iff.1 hp).1
  have hk2 := (List.getElem?_eq_some_iff.1 hq).1
  rw [hl] at hk hk2 hq
  rw [zdS L f k hf hk] at hp
  rw [zdS L f _ hf hk2] at hq
  refine h.step ((f + k) % L.length) p q hp ?_
  rw [← hq, Nat.mod_add_mod, Nat.add_mod_mod, Nat.add_assoc]
 ·have hj := (List.getElem?_eq_some_iff.1 hp).1
  have hk := (List.getElem?_eq_some_iff.1 hq).1
  rw [hl] at hj hk
  rw [zdS L f j hf hj] at hp
  rw [zdS L f k hf hk] at hq
  have := h.dist _ _ p q hp hq e
  rw [zeT hf hj, zeT hf hk] at this
  split at this <;> split at this <;> omega
 ·rcases List.mem_append.1 hp with hp | hp
  ·exact h.rng p (List.mem_of_mem_drop hp)
  ·exact h.rng p (List.mem_of_mem_take hp)
theorem ziB (Rs : List RIn) (hg : ∀ R ∈ Rs, Good R) (hd : Dis Rs) : Rnd Rs (zF 0 Rs) :=
 ⟨fun k p q hp hq => zdR Rs hg k p q hp hq, zaP Rs 0 (fun R hR => (hg R hR).rng) hd, fun p hp => by
  obtain ⟨R, _, h, _⟩ := zZ Rs 0 p.1 p.2 (fun R hR => (hg R hR).rng) hp
  exact ⟨R, by simpa using h⟩⟩
def fromL (L : List (Nat × Ad)) (last : Option Ad) : Nat := match last with
 | none => 0
 | some a => match L.findIdx? fun p => decide (p.2 = a) with
  | none => 0
  | some k => (k + 1) % L.length
def xB (Rs : List RIn) (last : Option Ad) : List (Nat × Ad) := (zF 0 Rs).drop (fromL (zF 0 Rs) last) ++ (zF 0 Rs).take (fromL (zF 0 Rs) last)
def rdL (Rs : List RIn) (last : Option Ad) : List (Nat × Ad) := (xB Rs last).filter (nonG Rs)
theorem zdT (Rs : List RIn) (hg : ∀ R ∈ Rs, Good R) (hd : Dis Rs) (hne : 0 < Rs.length) (s : Option Ad) : Src Rs ⟨0, none, s⟩ ((zF 0 Rs).filter (nonG Rs)) := by
 cases Rs with
 | nil => simp at hne
 | cons R0 l =>
  refine zfK (ziB _ hg hd) (0, zB R0) (yM 0 R0 l (hg R0 (by simp)).rng) _ (fun R hR hn => ?_) (fun R hR he it' r hn => ?_)
  ·obtain rfl : R0 = R := by simpa using hR
   exact NextR.fresh hR hn
  ·obtain rfl : R0 = R := by simpa using hR
   exact NextR.freshGate hR he hn
theorem rd_ok (Rs : List RIn) (hg : ∀ R ∈ Rs, Good R) (hd : Dis Rs) (hne : 0 < Rs.length) : Rd Rs (rdL Rs) := by
 have hr : ∀ R ∈ Rs, Rng R := fun R hR => (hg R hR).rng
 refine ⟨fun last hok => ?_, fun last i a h => ?_⟩
 rotate_left
 ·have h1 := (List.mem_filter.1 h).1
  have h2 : (i, a) ∈ zF 0 Rs := by
   rcases List.mem_append.1 h1 with h1 | h1
   ·exact List.mem_of_mem_drop h1
   ·exact List.mem_of_mem_take h1
  obtain ⟨R, _, h3, h4⟩ := zZ Rs 0 i a hr h2
  exact ⟨R, by simpa using h3, h4⟩
 ·cases last with
  | none =>
   have := zdT Rs hg hd hne (Rs[0]?.map zB)
   simpa [rdL, xB, fromL, iter0] using this
  | some a =>
   cases hf : Rs.findIdx? fun R => inR R a with
   | none =>
    have hn : (zF 0 Rs).findIdx? (fun p => decide (p.2 = a)) = none := by
     rw [List.findIdx?_eq_none_iff]
     intro p hp
     rw [decide_eq_false_iff_not]
     intro e
     obtain ⟨R, _, h1, h2⟩ := zZ Rs 0 p.1 p.2 hr hp
     have := List.findIdx?_eq_none_iff.1 hf R (List.mem_of_getElem? h1)
     rw [e] at h2
     rw [h2] at this
     cases this
    have := zdT Rs hg hd hne (Rs[0]?.map zB)
    have hi : iter0 Rs (some a) = ⟨0, none, Rs[0]?.map zB⟩ := by
     unfold iter0
     rw [Option.bind_some, hf]
     rfl
    rw [hi]
    have hfr : fromL (zF 0 Rs) (some a) = 0 := by
     unfold fromL
     simp only [hn]
    simpa [rdL, xB, hfr] using this
   | some i =>
    obtain ⟨hil, hin, _⟩ := List.findIdx?_eq_some_iff_getElem.1 hf
    have hRi : Rs[i]? = some Rs[i] := List.getElem?_eq_getElem hil
    have hm := zeS Rs 0 i _ a hr hRi hin
    have hi : iter0 Rs (some a) = ⟨i, some a, none⟩ := by
     unfold iter0
     rw [Option.bind_some, hf]
     rfl
    obtain ⟨k, hk⟩ : ∃ k, (zF 0 Rs).findIdx? (fun p => decide (p.2 = a)) = some k := by
     cases h : (zF 0 Rs).findIdx? (fun p => decide (p.2 = a)) with
     | some k => exact ⟨k, rfl⟩
     | none =>
      have := List.findIdx?_eq_none_iff.1 h _ hm
      simp at this
    obtain ⟨hkl, hka, _⟩ := List.findIdx?_eq_some_iff_getElem.1 hk
    have hka := of_decide_eq_true hka
    have hLk : (zF 0 Rs)[k]? = some (zF 0 Rs)[k] := List.getElem?_eq_getElem hkl
    generalize (zF 0 Rs)[k] = p at hLk hka
    obtain ⟨pi, pa⟩ := p
    simp only at hka
    subst hka
    obtain ⟨Q, _, hQ, hQin⟩ := zZ Rs 0 pi pa hr (List.mem_of_getElem? hLk)
    rw [Nat.sub_zero] at hQ
    obtain rfl : pi = i := hd pi i Q _ pa hQ hRi hQin hin
    have hfl : (k + 1) % (zF 0 Rs).length < (zF 0 Rs).length := Nat.mod_lt _ (by omega)
    obtain ⟨p0, hp0⟩ : ∃ p0, (zF 0 Rs)[(k + 1) % (zF 0 Rs).length]? = some p0 := ⟨_, List.getElem?_eq_getElem hfl⟩
    have hs := zdR Rs hg k _ p0 hLk hp0
    have hM0 : ((zF 0 Rs).drop ((k + 1) % (zF 0 Rs).length) ++ (zF 0 Rs).take ((k + 1) % (zF 0 Rs).length))[0]? = some p0 := by
     rw [zdS _ _ 0 hfl (by omega), Nat.add_zero, Nat.mod_eq_of_lt hfl]
     exact hp0
    have := zfK ((ziB Rs hg hd).rot _ hfl) p0 hM0 ⟨pi, some pa, none⟩ (fun R hR hn => NextR.go hs (by simp) hR hn) (fun R hR he it' r hn => NextR.goGate hs (by simp) hR he hn)
    rw [hi]
    have hfr : fromL (zF 0 Rs) (some pa) = (k + 1) % (zF 0 Rs).length := by
     unfold fromL
     simp only [hk]
    unfold rdL xB
    rw [hfr]
    exact this
end Go.Proofs.YtnehofekgnbelaaGreatDoor

/-
  Texts put together: CanStr.
-/
import Derived.Test.YtnehofekgnbelaaGreatDoorK5
import Derived.Test.YtnehofekgnbelaaGreatDoorM24
import Derived.Test.YtnehofekgnbelaaGreatDoorM27

/-
  impl.Canonical.
-/
namespace Go.Proofs.YtnehofekgnbelaaGreatDoor
open Go.RowKit
set_option linter.unusedVariables false
set_option maxRecDepth 100000
set_option maxHeartbeats 1000000

instance kinMet' (w : World) : Nonempty (Kin w) := ⟨⟨w, Below.refl w.heap.size w⟩⟩
theorem gate_ok {R : RIn} (hk : ROk R) (h : okR R = true) : (gateOf R).ok := by
  unfold okR canonP at h
  simp only [Bool.and_eq_true, decide_eq_true_eq] at h
  obtain ⟨⟨⟨h2, hn⟩, _⟩, _⟩ := h
  unfold gateOf
  cases ho : R.o3 with
  | none => exact up_ok hk.oa hk.room h2 hn
  | some s => exact hk.k3 s ho

/-- A range's four texts in its standard form, as a value. -/
def canA (R : RIn) : List UInt8 := if okR R then netL R.a R.free else []
def canB (R : RIn) : List UInt8 := if okR R then (startOf R).text else []
def canC (R : RIn) : List UInt8 := if okR R then (lastOf R).text else []
def canD (R : RIn) : List UInt8 := if okR R then (gateOf R).text else []
def canV (R : RIn) : Value := .agg #[.string ⟨(canA R).toArray⟩, .string ⟨(canB R).toArray⟩, .string ⟨(canC R).toArray⟩, .string ⟨(canD R).toArray⟩]
theorem below_set4 {k : Nat} {w w' : World} {B : Nat} (h : Below k w w') (hB : k ≤ B) (a b c d : Value) :
    Below k w ((((w'.setCell ⟨B, 0, none⟩ a).setCell ⟨B, 1, none⟩ b).setCell ⟨B, 2, none⟩ c).setCell ⟨B, 3, none⟩ d) :=
  (((h.setCell hB _).setCell hB _).setCell hB _).setCell hB _

theorem implCanonical_any (s0 s1 s2 s3 : ByteArray) (R : RIn) (w : World) (h : RTexts s0 s1 s2 s3 R) (hk : ROk R) (ht : Tab w) :
    Calls Tryz.prog 11 #[.agg #[.string s0, .string s1, .string s2, .string s3]] w (BelowPost w (.tuple #[canV R, .bool (okR R)])) := by
  have HC := Lib.hid (fun w => canonical_any s0 s1 s2 s3 R w h hk)
  have HTAB := Lib.hid ht
  have HK := Lib.hid hk
  clear h hk ht
  go_enter Tryz.func11, Tryz.ntmps11
  go_wp2_with fail
  refine (HC.out _).mono ?_
  rintro e w1 ⟨v0, v1, vi, vm, v4, rfl, ⟨⟨x0, y0, q0, rfl⟩, ⟨x1, y1, q1, rfl⟩, ⟨xi, yi, qi, rfl⟩, ⟨xm, ym, qm, rfl⟩, ⟨x4, y4, q4, rfl⟩⟩, hheld, hb1⟩
  obtain ⟨k0, k1, kw⟩ := two_kept' hb1
  obtain ⟨r0, r1, r2, r3⟩ := row4_facts k1
  have z0 := frozen_of_row w1 _ 0 _ _ k1
  have z1 := frozen_of_row w1 _ 1 _ _ k1
  have z2 := frozen_of_row w1 _ 2 _ _ k1
  have z3 := frozen_of_row w1 _ 3 _ _ k1
  have hlt : w.heap.size + 1 < w1.heap.size := (Array.getElem?_eq_some_iff.1 k1).1
  have HH := Lib.hid hheld
  have HKW := Lib.hid kw
  have HK1 := Lib.hid k1
  clear hheld hb1 k0 k1 kw HC
  cases hok : okR R with
  | false =>
    have HV := Lib.hid (show canV R = .agg #[.string ⟨#[]⟩, .string ⟨#[]⟩, .string ⟨#[]⟩, .string ⟨#[]⟩] by simp [canV, canA, canB, canC, canD, hok])
    have HOK := Lib.hid hok
    clear hok
    go_wp2_with fail
    refine bodyPost_ret (v := .tuple #[.agg #[.string ⟨#[]⟩, .string ⟨#[]⟩, .string ⟨#[]⟩, .string ⟨#[]⟩], .bool false]) (by simp [hlt, results, Tryz.results11, go_sem, r0, r1, r2, r3]) rfl ⟨by rw [HV.out, HOK.out], ?_⟩
    have hsz := HKW.out.size
    refine Below.alloc (below_set4 HKW.out ?_ _ _ _ _) ?_ _
    · omega
    · simpa using hsz
  | true =>
    have HV := Lib.hid (show canV R = .agg #[.string ⟨(netL R.a R.free).toArray⟩, .string ⟨(startOf R).text.toArray⟩, .string ⟨(lastOf R).text.toArray⟩, .string ⟨(gateOf R).text.toArray⟩] by simp [canV, canA, canB, canC, canD, hok])
    have hH := HH.out hok
    have hse := canon_ok HK.out.oa HK.out.room HK.out.k1 HK.out.k2 hok
    have hg := gate_ok HK.out hok
    have HN := Lib.hid (fun (W : World) (B : Nat) (hb : Below w1.heap.size w1 W) (g0 : W.cell? ⟨B, 0, none⟩ = some (.slice xi yi qi)) (g1 : W.cell? ⟨B, 1, none⟩ = some (.slice xm ym qm)) =>
      (netString_any B _ _ R.a R.free W g0 g1 (BriefAt.keep hH.net hb) (IPAt.keep hH.mask hb) HK.out.oa HK.out.room ((HTAB.out.on HKW.out).on hb)).mono (fun e w' h => text_fix h))
    have HS := Lib.hid (fun (W : World) (hb : Below w1.heap.size w1 W) => (ipString_any _ _ W (.inr (BriefAt.keep hH.hs hb)) hse.1).mono (fun e w' h => text_fix h))
    have HE := Lib.hid (fun (W : World) (hb : Below w1.heap.size w1 W) => (ipString_any _ _ W (.inr (BriefAt.keep hH.he hb)) hse.2).mono (fun e w' h => text_fix h))
    have HG := Lib.hid (fun (W : World) (hb : Below w1.heap.size w1 W) => (ipString_any _ _ W (.inr (BriefAt.keep hH.hg hb)) hg).mono (fun e w' h => text_fix h))
    generalize netL R.a R.free = tn at HV HN
    generalize (startOf R).text = ts at HV HS
    generalize (lastOf R).text = te at HV HE
    generalize (gateOf R).text = tg at HV HG
    have HOK := Lib.hid hok
    clear hok hH hse hg HH
    go_wp2_with fail
    have hn1 : ((w1.alloc (.cells #[.slice x0 y0 q0, .slice x1 y1 q1, .slice xi yi qi, .slice xm ym qm, .slice x4 y4 q4] 72)).alloc (.cells #[.slice xi yi qi, .slice xm ym qm] 75)).heap[w1.heap.size]? = some (.cells #[.slice x0 y0 q0, .slice x1 y1 q1, .slice xi yi qi, .slice xm ym qm, .slice x4 y4 q4] 72) := (heap_alloc_old _ _ (by simp)).trans (heap_alloc_new w1 _)
    have hn2 : ((w1.alloc (.cells #[.slice x0 y0 q0, .slice x1 y1 q1, .slice xi yi qi, .slice xm ym qm, .slice x4 y4 q4] 72)).alloc (.cells #[.slice xi yi qi, .slice xm ym qm] 75)).heap[w1.heap.size + 1]? = some (.cells #[.slice xi yi qi, .slice xm ym qm] 75) := by
      have := heap_alloc_new (w1.alloc (.cells #[.slice x0 y0 q0, .slice x1 y1 q1, .slice xi yi qi, .slice xm ym qm, .slice x4 y4 q4] 72)) (.cells #[.slice xi yi qi, .slice xm ym qm] 75)
      rw [World.size_alloc] at this
      exact this
    have hbA : Below w1.heap.size w1 ((w1.alloc (.cells #[.slice x0 y0 q0, .slice x1 y1 q1, .slice xi yi qi, .slice xm ym qm, .slice x4 y4 q4] 72)).alloc (.cells #[.slice xi yi qi, .slice xm ym qm] 75)) := ((Below.refl _ _).alloc (Nat.le_refl _) _).alloc (by simp) _
    have HBA := Lib.hid hbA
    have c0 := kin_cell (cell_of_row _ _ 0 _ _ _ hn1)
    have c1 := kin_cell (cell_of_row _ _ 1 _ _ _ hn1)
    have c4 := kin_cell (cell_of_row _ _ 4 _ _ _ hn1)
    have d0 := kin_cell (cell_of_row _ _ 0 _ _ _ hn2)
    have d1 := kin_cell (cell_of_row _ _ 1 _ _ _ hn2)
    have HROW := Lib.hid (fun x => kin_row ((hbA.block _ hlt).trans HK1.out) x)
    have HB := Lib.hid (fun x : Kin ((w1.alloc (.cells #[.slice x0 y0 q0, .slice x1 y1 q1, .slice xi yi qi, .slice xm ym qm, .slice x4 y4 q4] 72)).alloc (.cells #[.slice xi yi qi, .slice xm ym qm] 75)) => below_tr hbA x.ok)
    have HNX := Lib.hid (fun x : Kin ((w1.alloc (.cells #[.slice x0 y0 q0, .slice x1 y1 q1, .slice xi yi qi, .slice xm ym qm, .slice x4 y4 q4] 72)).alloc (.cells #[.slice xi yi qi, .slice xm ym qm] 75)) => kin_call (fun _ _ h => h) (HN.out x.on (w1.heap.size + 1) (HB.out x) (d0 x) (d1 x)))
    have HSX := Lib.hid (fun x : Kin ((w1.alloc (.cells #[.slice x0 y0 q0, .slice x1 y1 q1, .slice xi yi qi, .slice xm ym qm, .slice x4 y4 q4] 72)).alloc (.cells #[.slice xi yi qi, .slice xm ym qm] 75)) => kin_call (fun _ _ h => h) (HS.out x.on (HB.out x)))
    have HEX := Lib.hid (fun x : Kin ((w1.alloc (.cells #[.slice x0 y0 q0, .slice x1 y1 q1, .slice xi yi qi, .slice xm ym qm, .slice x4 y4 q4] 72)).alloc (.cells #[.slice xi yi qi, .slice xm ym qm] 75)) => kin_call (fun _ _ h => h) (HE.out x.on (HB.out x)))
    have HGX := Lib.hid (fun x : Kin ((w1.alloc (.cells #[.slice x0 y0 q0, .slice x1 y1 q1, .slice xi yi qi, .slice xm ym qm, .slice x4 y4 q4] 72)).alloc (.cells #[.slice xi yi qi, .slice xm ym qm] 75)) => kin_call (fun _ _ h => h) (HG.out x.on (HB.out x)))
    clear hn1 hn2 hbA d0 d1 HN HS HE HG
    refine kin_tail 11 (by kernel_rfl) (by kernel_rfl) ?_
    simp only [List.take_succ_cons, List.take_zero]
    repeat (go_big_quiet_step (first
      | (go_at_call 29; exact HNX.out _)
      | (go_at_call_of 30 (Value.slice x0 y0 q0); exact HSX.out _)
      | (go_at_call_of 30 (Value.slice x1 y1 q1); exact HEX.out _)
      | (go_at_call_of 30 (Value.slice x4 y4 q4); exact HGX.out _)))
    refine wpQuiet_nil ?_
    intro _ hw'
    obtain ⟨x, rfl⟩ := hw'
    simp only [List.drop_succ_cons, List.drop_zero]
    have hrow := HROW.out x
    have HBX := Lib.hid (below_tr HKW.out (HB.out x))
    clear c0 c1 c4 HROW HB HNX HSX HEX HGX HBA r0 r1 r2 r3 z0 z1 z2 z3 HK1
    generalize x.on = wx at hrow HBX ⊢
    obtain ⟨r0, r1, r2, r3⟩ := row4_facts hrow
    have z0 := frozen_of_row wx _ 0 _ _ hrow
    have z1 := frozen_of_row wx _ 1 _ _ hrow
    have z2 := frozen_of_row wx _ 2 _ _ hrow
    have z3 := frozen_of_row wx _ 3 _ _ hrow
    have HROW := Lib.hid hrow
    clear hrow
    go_wp2_with fail
    refine bodyPost_ret (v := .tuple #[.agg #[.string ⟨tn.toArray⟩, .string ⟨ts.toArray⟩, .string ⟨te.toArray⟩, .string ⟨tg.toArray⟩], .bool true]) (by simp [results, Tryz.results11, go_sem, r0, r1, r2, r3]) rfl ⟨by rw [HV.out, HOK.out], ?_⟩
    exact below_set4 HBX.out (by omega) _ _ _ _

end Go.Proofs.YtnehofekgnbelaaGreatDoor

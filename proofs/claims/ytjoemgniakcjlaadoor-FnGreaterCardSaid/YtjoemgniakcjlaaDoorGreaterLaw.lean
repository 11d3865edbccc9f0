/-
  The law FnGreater.
-/
import Derived.Test.YtjoemgniakcjlaaDoorGreater
namespace Go.Proofs.YtjoemgniakcjlaaDoor
open Go.RowKit
set_option linter.unusedVariables false

theorem ver_some {s : ByteArray} {Q : List Int} {w : World} (h : verL (bl s) = some Q) {e : Ending} {w' : World} (p : VerPost (bl s) w e w') :
    e = .returned (.tuple #[.agg #[.int .i64 (Q.getD 0 0), .int .i64 (Q.getD 1 0), .int .i64 (Q.getD 2 0)], .bool true]) ∧ Below w.heap.size w w' := by
  obtain ⟨h1, h2⟩ := p
  rw [h] at h1
  exact ⟨h1, h2⟩
theorem ver_none {s : ByteArray} {w : World} (h : verL (bl s) = none) {e : Ending} {w' : World} (p : VerPost (bl s) w e w') :
    e = .returned (.tuple #[.agg #[.int .i64 0, .int .i64 0, .int .i64 0], .bool false]) ∧ Below w.heap.size w w' := by
  obtain ⟨h1, h2⟩ := p
  rw [h] at h1
  exact ⟨h1, h2⟩
/-- Whatever the text is: three numbers and a sign. -/
theorem ver_all {s : ByteArray} {w : World} {e : Ending} {w' : World} (p : VerPost (bl s) w e w') :
    ∃ a b c : Int, e = .returned (.tuple #[.agg #[.int .i64 a, .int .i64 b, .int .i64 c], .bool (verL (bl s)).isSome]) ∧ Below w.heap.size w w' :=
  ⟨_, _, _, p.1, p.2⟩

set_option maxHeartbeats 2000000 in
set_option maxRecDepth 100000 in
theorem greater_no (s t : ByteArray) (w : World) (hs : s.size ≤ 2147483647) (ht : t.size ≤ 2147483647) (hn : verL (bl s) = none ∨ verL (bl t) = none) :
    Calls Tryd.prog 4 #[.string s, .string t] w (LawPost w) := by
  generalize hp : (verL (bl s)).isSome = p
  generalize hq : (verL (bl t)).isSome = q
  have hpq : p = false ∨ q = false := by
    rcases hn with h | h
    · left; rw [← hp, h]; rfl
    · right; rw [← hq, h]; rfl
  have HP := Lib.hid hp
  have HQ := Lib.hid hq
  clear hn hp hq
  go_enter Tryd.func4, Tryd.ntmps4
  go_wp2_with fail
  refine (version_any s _ (by omega)).mono ?_
  intro e w1 hpost
  obtain ⟨a, b, c, rfl, hb1⟩ := ver_all hpost
  rw [HP.out]
  clear hpost
  go_wp2_with fail
  refine (version_any t _ (by omega)).mono ?_
  intro e w2 hpost
  obtain ⟨x, y, z, rfl, hb2⟩ := ver_all hpost
  rw [HQ.out]
  have hfin : Below w.heap.size w w2 := below_tr hb1 (below_tr ((Below.refl _ _).alloc (Nat.le_refl _) _) hb2)
  have HF := Lib.hid hfin
  clear hpost hb1 hb2 hfin
  rcases hpq with rfl | rfl
  · cases q
    all_goals
      go_wp2_with fail
      go_ret
      refine ⟨rfl, below_tr HF.out ?_⟩
      go_grown
  · cases p
    all_goals
      go_wp2_with fail
      go_ret
      refine ⟨rfl, below_tr HF.out ?_⟩
      go_grown

set_option maxHeartbeats 2000000 in
set_option maxRecDepth 100000 in
theorem greater_yes (s t : ByteArray) (Q R : List Int) (w : World) (hq : verL (bl s) = some Q) (hr : verL (bl t) = some R) :
    Calls Tryd.prog 4 #[.string s, .string t] w (LawPost w) := by
  have hs := (VerIs.of hq).size
  have ht := (VerIs.of hr).size
  have hv := VerIs.of hq
  have hu := VerIs.of hr
  have hv1 := fun {w e w'} => ver_some (w := w) (e := e) (w' := w') hq
  have hu1 := fun {w e w'} => ver_some (w := w) (e := e) (w' := w') hr
  generalize Q.getD 0 0 = a at hv hv1
  generalize Q.getD 1 0 = b at hv hv1
  generalize Q.getD 2 0 = c at hv hv1
  generalize R.getD 0 0 = x at hu hu1
  generalize R.getD 1 0 = y at hu hu1
  generalize R.getD 2 0 = z at hu hu1
  have HV := Lib.hid hv
  have HU := Lib.hid hu
  have HV1 := @Lib.hid _ @hv1
  have HU1 := @Lib.hid _ @hu1
  clear hq hr hv hu hv1 hu1
  go_enter Tryd.func4, Tryd.ntmps4
  go_wp2_with fail
  refine (version_any s _ (by omega)).mono ?_
  intro e w1 hpost
  obtain ⟨rfl, hb1⟩ := HV1.out hpost
  clear hpost
  go_wp2_with fail
  refine (version_any t _ (by omega)).mono ?_
  intro e w2 hpost
  obtain ⟨rfl, hb2⟩ := HU1.out hpost
  clear hpost
  go_wp2_with fail
  refine (greater_ok s t a b c x y z _ HV.out HU.out).mono ?_
  rintro e w3 ⟨rfl, hb3⟩
  go_wp2_with fail
  refine (above_ok s t a b c x y z _ HV.out HU.out).mono ?_
  rintro e w4 ⟨rfl, hb4⟩
  have hA : w1.heap.size < w2.heap.size := by have := hb2.size; simp at this; omega
  have hA3 : w1.heap.size < w3.heap.size := by have := hb3.size; simp at this; omega
  have hA4 : w1.heap.size < w4.heap.size := by have := hb4.size; omega
  have hB3 : w2.heap.size < w3.heap.size := by have := hb3.size; simp at this; omega
  have hB4 : w2.heap.size < w4.heap.size := by have := hb4.size; omega
  have ka : ∀ j u, (w1.alloc (.cells #[.int .i64 a, .int .i64 b, .int .i64 c] 22)).cell? ⟨w1.heap.size, j, none⟩ = some u → w4.cell? ⟨w1.heap.size, j, none⟩ = some u := fun j u h => by
    rw [hb4.cell (p := ⟨w1.heap.size, j, none⟩) hA3, hb3.cell (p := ⟨w1.heap.size, j, none⟩) (by simp; omega), World.cell?_of_block (Below.heap_alloc _ _ _ hA), hb2.cell (p := ⟨w1.heap.size, j, none⟩) (by simp)]
    exact h
  have kb : ∀ j u, (w2.alloc (.cells #[.int .i64 x, .int .i64 y, .int .i64 z] 22)).cell? ⟨w2.heap.size, j, none⟩ = some u → w4.cell? ⟨w2.heap.size, j, none⟩ = some u := fun j u h => by
    rw [hb4.cell (p := ⟨w2.heap.size, j, none⟩) hB3, hb3.cell (p := ⟨w2.heap.size, j, none⟩) (by simp)]
    exact h
  have k0 := ka 0 (.int .i64 a) (by simp [go_sem])
  have k1 := ka 1 (.int .i64 b) (by simp [go_sem])
  have k2 := ka 2 (.int .i64 c) (by simp [go_sem])
  have l0 := kb 0 (.int .i64 x) (by simp [go_sem])
  have l1 := kb 1 (.int .i64 y) (by simp [go_sem])
  have l2 := kb 2 (.int .i64 z) (by simp [go_sem])
  have hfin : Below w.heap.size w w4 := below_tr (below_tr (below_tr hb1 (below_tr ((Below.refl _ _).alloc (Nat.le_refl _) _) hb2)) (below_tr ((Below.refl _ _).alloc (Nat.le_refl _) _) hb3)) hb4
  have HF := Lib.hid hfin
  clear hb1 hb2 hb3 hb4 hA hA3 hB3 hfin ka kb
  generalize ho : ord3 a b c x y z = o
  have HO := Lib.hid ho
  clear ho
  go_wp2_with fail
  refine (order_any a b c x y z _).mono ?_
  rintro e w5 ⟨rfl, hb5⟩
  rw [HO.out]
  have k0' := (hb5.cell (p := ⟨w1.heap.size, 0, none⟩) hA4).trans k0
  have k1' := (hb5.cell (p := ⟨w1.heap.size, 1, none⟩) hA4).trans k1
  have k2' := (hb5.cell (p := ⟨w1.heap.size, 2, none⟩) hA4).trans k2
  have l0' := (hb5.cell (p := ⟨w2.heap.size, 0, none⟩) hB4).trans l0
  have l1' := (hb5.cell (p := ⟨w2.heap.size, 1, none⟩) hB4).trans l1
  have l2' := (hb5.cell (p := ⟨w2.heap.size, 2, none⟩) hB4).trans l2
  clear k0 k1 k2 l0 l1 l2
  go_wp2_with fail
  refine (order_any a b c x y z _).mono ?_
  rintro e w6 ⟨rfl, hb6⟩
  rw [HO.out]
  go_wp2_with fail
  go_ret
  exact ⟨rfl, below_tr (below_tr HF.out hb5) hb6⟩

set_option maxHeartbeats 1000000 in
set_option maxRecDepth 100000 in
theorem lawGreater (s t : ByteArray) (w : World) : Calls Tryd.prog 4 #[.string s, .string t] w (LawPost w) := by
  by_cases hs : 2147483647 < (s.size : Int)
  · go_enter Tryd.func4, Tryd.ntmps4
    go_wp2_with fail
    go_ret
    exact ⟨rfl, Below.refl _ _⟩
  · by_cases ht : 2147483647 < (t.size : Int)
    · go_enter Tryd.func4, Tryd.ntmps4
      go_wp2_with fail
      go_ret
      exact ⟨rfl, Below.refl _ _⟩
    · cases hq : verL (bl s) with
      | none => exact greater_no s t w (by omega) (by omega) (.inl hq)
      | some Q =>
        cases hr : verL (bl t) with
        | none => exact greater_no s t w (by omega) (by omega) (.inr hr)
        | some R => exact greater_yes s t Q R w hq hr

end Go.Proofs.YtjoemgniakcjlaaDoor

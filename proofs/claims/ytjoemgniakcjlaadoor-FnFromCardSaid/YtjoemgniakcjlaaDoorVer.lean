/-
  spec.Version: the numbers of a version.
-/
import Derived.Test.YtjoemgniakcjlaaDoorNum
namespace Go.Proofs.YtjoemgniakcjlaaDoor
open Go.RowKit
set_option linter.unusedVariables false

/-- The numbers of at most 'n' parts more, behind those that are read. -/
def verGo : Nat → List Int → List UInt8 → Option (List Int)
  | 0, _, _ => none
  | n + 1, P, l => if numOK 999999 (cutL 46 l).1 then (if (cutL 46 l).2.2 then verGo n (P ++ [valL (cutL 46 l).1]) (cutL 46 l).2.1 else some (P ++ [valL (cutL 46 l).1])) else none
def verL (l : List UInt8) : Option (List Int) := if l = [] then some [0, 1, 0] else verGo 3 [] l
def v3 (P : List Int) : Value := .agg #[.int .i64 (P.getD 0 0), .int .i64 (P.getD 1 0), .int .i64 (P.getD 2 0)]

def VerPost (l : List UInt8) (w : World) (e : Ending) (w' : World) : Prop :=
  e = .returned (.tuple #[v3 ((verL l).getD []), .bool (verL l).isSome]) ∧ Below w.heap.size w w'

def c3 (P : List Int) : Array Value := #[.int .i64 (P.getD 0 0), .int .i64 (P.getD 1 0), .int .i64 (P.getD 2 0)]

structure VerRel (s : ByteArray) (w : World) (k : Nat) (P : List Int) (r : ByteArray) (wr : World) : Prop where
  res : wr.heap[w.heap.size]? = some (.cells #[.int .i64 0, .int .i64 0, .int .i64 0] 22 (0, 0))
  out : wr.heap[w.heap.size + 1]? = some (.cells (c3 P) 22 (0, 0))
  len : P.length = k
  size : r.size ≤ 9223372036854775807
  ver : verL (bl s) = verGo (3 - k) P (bl r)
  below : Below w.heap.size w wr

theorem c3_snoc (P : List Int) (g : Int) (k : Nat) (hk : k < 3) (hl : P.length = k) : (c3 P).setIfInBounds k (.int .i64 g) = c3 (P ++ [g]) := by
  subst hl
  rcases P with _ | ⟨a, _ | ⟨b, _ | ⟨c, P⟩⟩⟩
  · rfl
  · rfl
  · rfl
  · simp at hk; omega

theorem VerRel.next {s : ByteArray} {w : World} {k : Nat} {P : List Int} {x : ByteArray} {wr : World} (h : VerRel s w k P x wr) (hk : k < 3) (n : Nat) {g : Int} {q : ByteArray} (hq : q.size ≤ 9223372036854775807)
    (hv : verL (bl s) = verGo (3 - (k + 1)) (P ++ [g]) (bl q)) : VerRel s w (k + 1) (P ++ [g]) q ((wr.drewN n).setCell ⟨w.heap.size + 1, k, none⟩ (.int .i64 g)) := by
  refine ⟨?_, ?_, by simp [h.len], hq, hv, (below_drewN h.below n).setCell (by simp) _⟩
  · rw [Below.heap_setCell _ _ _ _ (by simp)]
    exact h.res
  · have := heap_setCell_same (wr.drewN n) (w.heap.size + 1) k (c3 P) 22 (.int .i64 g) h.out
    rw [c3_snoc P g k hk h.len] at this
    exact this

set_option maxHeartbeats 2000000 in
set_option maxRecDepth 100000 in
theorem version_any (s : ByteArray) (w : World) (hs : s.size ≤ 9223372036854775807) :
    Calls Tryd.prog 6 #[.string s] w (VerPost (bl s) w) := by
  by_cases h0 : s.size = 0
  · have he : bl s = [] := List.eq_nil_of_length_eq_zero (by rw [bl_length]; exact h0)
    have t1 : s.toList.isEmpty = true := by rw [Lib.toList_data]; show (bl s).isEmpty = true; rw [he]; rfl
    have HE := Lib.hid he
    clear h0 he
    go_enter Tryd.func6, Tryd.ntmps6
    go_wp2
    refine bodyPost_ret (v := .tuple #[v3 [0, 1, 0], .bool true]) (by simp [results, Tryd.results6, go_sem, v3]) rfl ⟨?_, ?_⟩
    · rw [HE.out]; rfl
    · go_grown
  · have he : bl s ≠ [] := fun h => h0 (by rw [← bl_length, h]; rfl)
    have t1 : s.toList.isEmpty = false := by
      rw [Lib.toList_data]
      show (bl s).isEmpty = false
      cases hb : bl s with
      | nil => exact absurd hb he
      | cons => rfl
    have hv0 : verL (bl s) = verGo 3 [] (bl s) := by unfold verL; rw [if_neg he]
    have HV0 := Lib.hid hv0
    clear h0 he hv0
    go_enter Tryd.func6, Tryd.ntmps6
    go_wp2
    go_loopw [5, 6] (fun r i wr => ∃ (k : Nat) (P : List Int) (x : ByteArray), k ≤ 3 ∧ i = .int .i64 k ∧ r = .string x ∧ VerRel s w k P x wr) (fun _ i _ => 3 - (intOf i).toNat)
    case atStart =>
      refine ⟨0, [], s, by omega, rfl, rfl, ?_, ?_, rfl, hs, HV0.out, by go_grown⟩
      · exact (Below.heap_alloc _ _ _ (by simp)).trans (heap_alloc_new w _)
      · have := heap_alloc_new (w.alloc (.cells #[.int .i64 0, .int .i64 0, .int .i64 0] 22)) (.cells #[.int .i64 0, .int .i64 0, .int .i64 0] 22)
        rw [World.size_alloc] at this
        exact this
    case round =>
      obtain ⟨k, P, x, hk, rfl, rfl, hr⟩ := hrel
      have f0 : wr.cell? ⟨w.heap.size, 0, none⟩ = some (.int .i64 0) := cell_of_row wr _ 0 _ _ _ hr.res
      have f1 : wr.cell? ⟨w.heap.size, 1, none⟩ = some (.int .i64 0) := cell_of_row wr _ 1 _ _ _ hr.res
      have f2 : wr.cell? ⟨w.heap.size, 2, none⟩ = some (.int .i64 0) := cell_of_row wr _ 2 _ _ _ hr.res
      have g0 := frozen_of_row wr _ 0 _ _ hr.res
      have g1 := frozen_of_row wr _ 1 _ _ hr.res
      have g2 := frozen_of_row wr _ 2 _ _ hr.res
      go_wp2_with fail
      refine (cut_point x _ hr.size).mono ?_
      rintro e w1 ⟨p, q, rfl, hp, hq, n1, rfl⟩
      generalize hc : cutL 46 (bl x) = c at hp hq ⊢
      obtain ⟨c1, c2, more⟩ := c
      have hps : p.size ≤ 9223372036854775807 := by
        have := (cutL_size 46 (bl x)).1
        rw [hc] at this
        rw [← bl_length, hp]
        have h2 := hr.size
        rw [← bl_length] at h2
        exact Nat.le_trans this h2
      have hqs : q.size ≤ 9223372036854775807 := by
        have := (cutL_size 46 (bl x)).2
        rw [hc] at this
        rw [← bl_length, hq]
        have h2 := hr.size
        rw [← bl_length] at h2
        exact Nat.le_trans this h2
      have hver := hr.ver
      simp only at hp hq
      have HC := Lib.hid hc
      have HP := Lib.hid hp
      have HQ := Lib.hid hq
      have HV := Lib.hid hver
      have HR := Lib.hid hr
      clear hc hp hq hver hr
      go_wp2_with fail
      refine (number_any p 999999 _ hps (by omega) (by omega)).mono ?_
      rintro e w2 ⟨rfl, rfl⟩
      cases hok : numOK 999999 (bl p) with
      | false =>
        have hnone : verL (bl s) = none := by
          rw [HV.out]
          cases hk3 : 3 - k with
          | zero => rfl
          | succ n => simp only [verGo, HC.out]; rw [← HP.out, hok]; rfl
        have HN := Lib.hid hnone
        clear hnone hok
        go_wp2_with fail
        refine bodyPost_ret (v := .tuple #[v3 [], .bool false]) (by simp [results, Tryd.results6, go_sem, v3, f0, f1, f2]) rfl ⟨?_, ?_⟩
        · rw [HN.out]; rfl
        · exact ((((below_drewN HR.out.below n1).setCell (Nat.le_refl _) _).setCell (Nat.le_refl _) _).setCell (Nat.le_refl _) _)
      | true =>
        have hval : numV 999999 (bl p) = valL (bl p) := by unfold numV; rw [hok]; rfl
        rw [hval]
        generalize hg : valL (bl p) = g
        have hstep : verL (bl s) = if k = 3 then none else if more then verGo (3 - (k + 1)) (P ++ [g]) (bl q) else some (P ++ [g]) := by
          rw [HV.out]
          by_cases hk3 : k = 3
          · subst hk3; rfl
          · rw [if_neg hk3, show 3 - k = (3 - (k + 1)) + 1 from by omega]
            simp only [verGo, HC.out]
            rw [← HP.out, hok, hg, ← HQ.out]
            rfl
        have HST := Lib.hid hstep
        clear hstep hok hval hg
        by_cases hk3 : k = 3
        · subst hk3
          go_wp2_with fail
          refine bodyPost_ret (v := .tuple #[v3 [], .bool false]) (by simp [results, Tryd.results6, go_sem, v3, f0, f1, f2]) rfl ⟨?_, ?_⟩
          · rw [HST.out]; rfl
          · exact ((((below_drewN HR.out.below n1).setCell (Nat.le_refl _) _).setCell (Nat.le_refl _) _).setCell (Nat.le_refl _) _)
        · have o0 : wr.cell? ⟨w.heap.size + 1, 0, none⟩ = some (.int .i64 (P.getD 0 0)) := cell_of_row wr _ 0 _ _ _ HR.out.out
          have o1 : wr.cell? ⟨w.heap.size + 1, 1, none⟩ = some (.int .i64 (P.getD 1 0)) := cell_of_row wr _ 1 _ _ _ HR.out.out
          have o2 : wr.cell? ⟨w.heap.size + 1, 2, none⟩ = some (.int .i64 (P.getD 2 0)) := cell_of_row wr _ 2 _ _ _ HR.out.out
          have p0 := frozen_of_row wr _ 0 _ _ HR.out.out
          have p1 := frozen_of_row wr _ 1 _ _ HR.out.out
          have p2 := frozen_of_row wr _ 2 _ _ HR.out.out
          obtain rfl | rfl | rfl : k = 0 ∨ k = 1 ∨ k = 2 := by omega
          · obtain rfl := List.length_eq_zero_iff.1 HR.out.len
            cases more with
            | true =>
              go_wp2_with fail
              go_roundw
              case rel => exact ⟨1, _, q, by omega, rfl, rfl, HR.out.next (by omega) n1 hqs HST.out⟩
              case measure => simp [intOf]
            | false =>
              go_wp2_with fail
              refine bodyPost_ret (v := .tuple #[v3 [g], .bool true]) (by simp [results, Tryd.results6, go_sem, v3, f0, f1, f2]) rfl ⟨?_, ?_⟩
              · rw [HST.out]; rfl
              · exact (((((below_drewN HR.out.below n1).setCell (by simp) _).setCell (by simp) _).setCell (by simp) _).setCell (by simp) _)
          · obtain ⟨a, rfl⟩ := List.length_eq_one_iff.1 HR.out.len
            cases more with
            | true =>
              go_wp2_with fail
              go_roundw
              case rel => exact ⟨2, _, q, by omega, rfl, rfl, HR.out.next (by omega) n1 hqs HST.out⟩
              case measure => simp [intOf]
            | false =>
              go_wp2_with fail
              refine bodyPost_ret (v := .tuple #[v3 [a, g], .bool true]) (by simp [results, Tryd.results6, go_sem, v3, f0, f1, f2]) rfl ⟨?_, ?_⟩
              · rw [HST.out]; rfl
              · exact (((((below_drewN HR.out.below n1).setCell (by simp) _).setCell (by simp) _).setCell (by simp) _).setCell (by simp) _)
          · obtain ⟨a, b, rfl⟩ : ∃ a b, P = [a, b] := by
              have := HR.out.len
              rcases P with _ | ⟨a, _ | ⟨b, _ | ⟨c, P⟩⟩⟩ <;> simp at this
              exact ⟨a, b, rfl⟩
            cases more with
            | true =>
              go_wp2_with fail
              go_roundw
              case rel => exact ⟨3, _, q, by omega, rfl, rfl, HR.out.next (by omega) n1 hqs HST.out⟩
              case measure => simp [intOf]
            | false =>
              go_wp2_with fail
              refine bodyPost_ret (v := .tuple #[v3 [a, b, g], .bool true]) (by simp [results, Tryd.results6, go_sem, v3, f0, f1, f2]) rfl ⟨?_, ?_⟩
              · rw [HST.out]; rfl
              · exact (((((below_drewN HR.out.below n1).setCell (by simp) _).setCell (by simp) _).setCell (by simp) _).setCell (by simp) _)

end Go.Proofs.YtjoemgniakcjlaaDoor

/-
  The reference: the address of a text of four numbers.
-/
import Derived.Test.YtnehofekgnbelaaRead
namespace Go.Proofs.Ytnehofekgnbelaa
open Go.RowKit
set_option linter.unusedVariables false
set_option maxRecDepth 100000
set_option maxHeartbeats 1000000

theorem quad_step (k : Nat) (l : List UInt8) (n : Nat) : quadN k l n =
    if numOK 255 (cutL 46 l).1 = true ∧ (cutL 46 l).2.2 = decide (0 < k) then
      if k = 0 then some ((n * 256 + (numV 255 (cutL 46 l).1).toNat) % 4294967296)
      else quadN (k - 1) (cutL 46 l).2.1 ((n * 256 + (numV 255 (cutL 46 l).1).toNat) % 4294967296)
    else none := by
  cases k with
  | zero => rfl
  | succ k => rfl
theorem readL_four {l : List UInt8} (h6 : isSix l = false) : readL l = (quadN 3 l 0).map fun n => ⟨false, n⟩ := by
  unfold readL
  rw [h6]
  rfl

theorem numOK_val {most : Int} {l : List UInt8} (h : numOK most l = true) : 0 ≤ valL l ∧ valL l ≤ most := by
  unfold numOK at h
  simp only [Bool.and_eq_true] at h
  exact ⟨valL_nonneg l h.1.1.2, of_decide_eq_true h.2⟩
theorem rd_drawn {w wr : World} {six : Bool} {n : Nat} {bs : List UInt8} (h : RdRel w six n bs wr) (k : Nat) : RdRel w six n bs (wr.drewN k) :=
  ⟨h.res, h.own, fun j hj => by have := h.row j hj; simpa using this, below_drewN h.below k⟩

theorem read_four (s : ByteArray) (w : World) (h6 : isSix (bl s) = false) (hs : s.size ≤ 2147483647) :
    Calls Try.prog 24 #[.string s] w (ReadPost w (bl s)) := by
  have hr0 : RdRel w false 0 [] ((w.alloc (.cells #[.bool false, .int .u32 0] 41)).alloc (.cells #[.bool false, .int .u32 0] 41)) := by
    refine ⟨?_, ?_, fun j hj => by simp at hj, (((Below.refl w.heap.size w).alloc (Nat.le_refl _) _).alloc (by simp) _)⟩
    · rw [heap_alloc_old _ _ (by simp)]
      exact heap_alloc_new w _
    · have := heap_alloc_new (w.alloc (.cells #[.bool false, .int .u32 0] 41)) (.cells #[.bool false, .int .u32 0] 41)
      rw [World.size_alloc] at this
      exact this
  have t2 : 10 ≤ s.size → ((s.extract 0 10).toList == [50, 48, 48, 49, 58, 100, 98, 56, 58, 58]) = false := fun h => by
    rw [beq_eq_false_iff_ne, Lib.toList_data]
    have e := of_decide_eq_false h6
    have e2 := Lib.extract_data s 0 10
    rw [e2]
    exact e
  have H6 := Lib.hid h6
  have HR0 := Lib.hid hr0
  have H2 := Lib.hid t2
  clear h6 hr0 t2
  by_cases hsz : 10 ≤ s.size
  · have t1 : decide ((10 : Int) ≤ s.size) = true := decide_eq_true (by omega)
    have t2 := H2.out hsz
    go_enter Try.func24, Try.ntmps24
    go_wp2_with fail
    go_loopw [8, 9] (fun q i wr => ∃ (k n : Nat) (x : ByteArray), k ≤ 4 ∧ i = .int .i64 k ∧ q = .string x ∧ n < 4294967296 ∧ x.size ≤ 2147483647 ∧ Hid (quadN 3 (bl s) 0 = (if k = 4 then some n else quadN (3 - k) (bl x) n) ∧ RdRel w false n [] wr)) (fun _ i _ => 4 - (intOf i).toNat)
    case atStart => exact ⟨0, 0, s, by omega, rfl, rfl, by omega, hs, rfl, HR0.out⟩
    case round =>
      obtain ⟨k, n, x, hk, rfl, rfl, hn, hx, hr⟩ := hrel
      have d0 := (rd_s hr.out.2).1
      have d1 := (rd_s hr.out.2).2
      have z1 := frozen_of_row wr _ 1 _ _ hr.out.2.own
      have r0 := rd_r0 hr.out.2
      have r1 := rd_r1 hr.out.2
      have g0 := rd_g0 hr.out.2
      have g1 := rd_g1 hr.out.2
      by_cases hk4 : k = 4
      · subst hk4
        go_wp2_with fail
        refine bodyPost_ret (v := .tuple #[adv ⟨false, n⟩, .bool true]) (by simp [results, Try.results24, go_sem, adv, r0, r1]) rfl ⟨⟨false, n⟩, true, rfl, ?_, hn, ?_⟩
        · show readL (bl s) = _
          rw [readL_four H6.out, hr.out.1]; rfl
        · exact (((hr.out.2.below.setCell (Nat.le_refl _) _).setCell (Nat.le_refl _) _))
      · have hst := quad_step (3 - k) (bl x) n
        have HST := Lib.hid hst
        clear hst
        have j1 : decide ((k : Int) < 4) = true := decide_eq_true (by omega)
        go_wp2_with fail
        refine (cut_point x _ (by omega)).mono ?_
        rintro e w1 ⟨p, q, rfl, hp, hq, n1, rfl⟩
        have hsz := cutL_size 46 (bl x)
        generalize cutL 46 (bl x) = c at hp hq hsz HST ⊢
        obtain ⟨c1, c2, more⟩ := c
        simp only at hp hq hsz
        have hps : p.size ≤ 2147483647 := by rw [← bl_length, hp]; rw [bl_length] at hsz; omega
        have hqs : q.size ≤ 2147483647 := by rw [← bl_length, hq]; rw [bl_length] at hsz; omega
        subst hp hq
        have HSZ := Lib.hid hsz
        clear hsz
        go_wp2_with fail
        refine (number_any p 255 _ (by omega) (by omega) (by omega)).mono ?_
        rintro e w2 ⟨rfl, rfl⟩
        cases hok : numOK 255 (bl p) with
        | false =>
          have hno : quadN 3 (bl s) 0 = none := by
            rw [hr.out.1, if_neg hk4, HST.out, if_neg (fun h => by rw [hok] at h; exact absurd h.1 (by decide))]
          have HNO := Lib.hid hno
          clear hno hok
          go_wp2_with fail
          refine bodyPost_ret (v := .tuple #[adv ⟨false, 0⟩, .bool false]) (by simp [results, Try.results24, go_sem, adv, r0, r1]) rfl ⟨⟨false, 0⟩, false, rfl, ?_, by decide, ?_⟩
          · show readL (bl s) = none
            rw [readL_four H6.out, HNO.out]; rfl
          · exact (((below_drewN hr.out.2.below n1).setCell (Nat.le_refl _) _).setCell (Nat.le_refl _) _)
        | true =>
          have hval : numV 255 (bl p) = valL (bl p) := by unfold numV; rw [hok]; rfl
          have hv2 := numOK_val hok
          obtain ⟨g, hg⟩ : ∃ g : Nat, valL (bl p) = g := ⟨(valL (bl p)).toNat, by omega⟩
          rw [hval, hg]
          have hg2 : g ≤ 255 := by omega
          have hs2 : quadN 3 (bl s) 0 = if more = decide (0 < 3 - k) then (if 3 - k = 0 then some ((n * 256 + g) % 4294967296) else quadN (3 - k - 1) (bl q) ((n * 256 + g) % 4294967296)) else none := by
            rw [hr.out.1, if_neg hk4, HST.out, hok, hval, hg]
            simp
          have HS2 := Lib.hid hs2
          obtain ⟨m, hm⟩ : ∃ m, m = (n * 256 + g) % 4294967296 := ⟨_, rfl⟩
          have b1 : bits .or .u32 ((n : Int) * 256 % 4294967296) (g : Int) = (m : Int) := by
            rw [or8 _ _ (by omega) (by omega) (by omega) (by omega) (by omega)]; omega
          have HM := Lib.hid hm
          have hm4 : m < 4294967296 := by omega
          clear hok hval hv2 hg hs2 hm
          by_cases hmk : more = decide (0 < 3 - k)
          · obtain rfl | rfl | rfl | rfl : k = 0 ∨ k = 1 ∨ k = 2 ∨ k = 3 := by omega
            all_goals
              subst hmk
              go_wp2_with fail
              go_roundw
              case rel => first | exact ⟨1, m, q, by omega, rfl, rfl, hm4, hqs, by rw [HS2.out, HM.out]; rfl, (rd_drawn hr.out.2 n1).store m⟩ | exact ⟨2, m, q, by omega, rfl, rfl, hm4, hqs, by rw [HS2.out, HM.out]; rfl, (rd_drawn hr.out.2 n1).store m⟩ | exact ⟨3, m, q, by omega, rfl, rfl, hm4, hqs, by rw [HS2.out, HM.out]; rfl, (rd_drawn hr.out.2 n1).store m⟩ | exact ⟨4, m, q, by omega, rfl, rfl, hm4, hqs, by rw [HS2.out, HM.out]; rfl, (rd_drawn hr.out.2 n1).store m⟩
              case measure => simp [intOf]
          · have hno : quadN 3 (bl s) 0 = none := by rw [HS2.out, if_neg hmk]
            have HNO := Lib.hid hno
            obtain rfl | rfl | rfl | rfl : k = 0 ∨ k = 1 ∨ k = 2 ∨ k = 3 := by omega
            all_goals
              cases more
              all_goals (first | exact absurd rfl hmk | skip)
              clear hno hmk
              go_wp2_with fail
              refine bodyPost_ret (v := .tuple #[adv ⟨false, 0⟩, .bool false]) (by simp [results, Try.results24, go_sem, adv, r0, r1]) rfl ⟨⟨false, 0⟩, false, rfl, ?_, by decide, ?_⟩
              · show readL (bl s) = none
                rw [readL_four H6.out, HNO.out]; rfl
              · exact (((below_drewN hr.out.2.below n1).setCell (Nat.le_refl _) _).setCell (Nat.le_refl _) _)
  · have t1 : decide ((10 : Int) ≤ s.size) = false := decide_eq_false (by omega)
    go_enter Try.func24, Try.ntmps24
    go_wp2_with fail
    go_loopw [8, 9] (fun q i wr => ∃ (k n : Nat) (x : ByteArray), k ≤ 4 ∧ i = .int .i64 k ∧ q = .string x ∧ n < 4294967296 ∧ x.size ≤ 2147483647 ∧ Hid (quadN 3 (bl s) 0 = (if k = 4 then some n else quadN (3 - k) (bl x) n) ∧ RdRel w false n [] wr)) (fun _ i _ => 4 - (intOf i).toNat)
    case atStart => exact ⟨0, 0, s, by omega, rfl, rfl, by omega, hs, rfl, HR0.out⟩
    case round =>
      obtain ⟨k, n, x, hk, rfl, rfl, hn, hx, hr⟩ := hrel
      have d0 := (rd_s hr.out.2).1
      have d1 := (rd_s hr.out.2).2
      have z1 := frozen_of_row wr _ 1 _ _ hr.out.2.own
      have r0 := rd_r0 hr.out.2
      have r1 := rd_r1 hr.out.2
      have g0 := rd_g0 hr.out.2
      have g1 := rd_g1 hr.out.2
      by_cases hk4 : k = 4
      · subst hk4
        go_wp2_with fail
        refine bodyPost_ret (v := .tuple #[adv ⟨false, n⟩, .bool true]) (by simp [results, Try.results24, go_sem, adv, r0, r1]) rfl ⟨⟨false, n⟩, true, rfl, ?_, hn, ?_⟩
        · show readL (bl s) = _
          rw [readL_four H6.out, hr.out.1]; rfl
        · exact (((hr.out.2.below.setCell (Nat.le_refl _) _).setCell (Nat.le_refl _) _))
      · have hst := quad_step (3 - k) (bl x) n
        have HST := Lib.hid hst
        clear hst
        have j1 : decide ((k : Int) < 4) = true := decide_eq_true (by omega)
        go_wp2_with fail
        refine (cut_point x _ (by omega)).mono ?_
        rintro e w1 ⟨p, q, rfl, hp, hq, n1, rfl⟩
        have hsz := cutL_size 46 (bl x)
        generalize cutL 46 (bl x) = c at hp hq hsz HST ⊢
        obtain ⟨c1, c2, more⟩ := c
        simp only at hp hq hsz
        have hps : p.size ≤ 2147483647 := by rw [← bl_length, hp]; rw [bl_length] at hsz; omega
        have hqs : q.size ≤ 2147483647 := by rw [← bl_length, hq]; rw [bl_length] at hsz; omega
        subst hp hq
        have HSZ := Lib.hid hsz
        clear hsz
        go_wp2_with fail
        refine (number_any p 255 _ (by omega) (by omega) (by omega)).mono ?_
        rintro e w2 ⟨rfl, rfl⟩
        cases hok : numOK 255 (bl p) with
        | false =>
          have hno : quadN 3 (bl s) 0 = none := by
            rw [hr.out.1, if_neg hk4, HST.out, if_neg (fun h => by rw [hok] at h; exact absurd h.1 (by decide))]
          have HNO := Lib.hid hno
          clear hno hok
          go_wp2_with fail
          refine bodyPost_ret (v := .tuple #[adv ⟨false, 0⟩, .bool false]) (by simp [results, Try.results24, go_sem, adv, r0, r1]) rfl ⟨⟨false, 0⟩, false, rfl, ?_, by decide, ?_⟩
          · show readL (bl s) = none
            rw [readL_four H6.out, HNO.out]; rfl
          · exact (((below_drewN hr.out.2.below n1).setCell (Nat.le_refl _) _).setCell (Nat.le_refl _) _)
        | true =>
          have hval : numV 255 (bl p) = valL (bl p) := by unfold numV; rw [hok]; rfl
          have hv2 := numOK_val hok
          obtain ⟨g, hg⟩ : ∃ g : Nat, valL (bl p) = g := ⟨(valL (bl p)).toNat, by omega⟩
          rw [hval, hg]
          have hg2 : g ≤ 255 := by omega
          have hs2 : quadN 3 (bl s) 0 = if more = decide (0 < 3 - k) then (if 3 - k = 0 then some ((n * 256 + g) % 4294967296) else quadN (3 - k - 1) (bl q) ((n * 256 + g) % 4294967296)) else none := by
            rw [hr.out.1, if_neg hk4, HST.out, hok, hval, hg]
            simp
          have HS2 := Lib.hid hs2
          obtain ⟨m, hm⟩ : ∃ m, m = (n * 256 + g) % 4294967296 := ⟨_, rfl⟩
          have b1 : bits .or .u32 ((n : Int) * 256 % 4294967296) (g : Int) = (m : Int) := by
            rw [or8 _ _ (by omega) (by omega) (by omega) (by omega) (by omega)]; omega
          have HM := Lib.hid hm
          have hm4 : m < 4294967296 := by omega
          clear hok hval hv2 hg hs2 hm
          by_cases hmk : more = decide (0 < 3 - k)
          · obtain rfl | rfl | rfl | rfl : k = 0 ∨ k = 1 ∨ k = 2 ∨ k = 3 := by omega
            all_goals
              subst hmk
              go_wp2_with fail
              go_roundw
              case rel => first | exact ⟨1, m, q, by omega, rfl, rfl, hm4, hqs, by rw [HS2.out, HM.out]; rfl, (rd_drawn hr.out.2 n1).store m⟩ | exact ⟨2, m, q, by omega, rfl, rfl, hm4, hqs, by rw [HS2.out, HM.out]; rfl, (rd_drawn hr.out.2 n1).store m⟩ | exact ⟨3, m, q, by omega, rfl, rfl, hm4, hqs, by rw [HS2.out, HM.out]; rfl, (rd_drawn hr.out.2 n1).store m⟩ | exact ⟨4, m, q, by omega, rfl, rfl, hm4, hqs, by rw [HS2.out, HM.out]; rfl, (rd_drawn hr.out.2 n1).store m⟩
              case measure => simp [intOf]
          · have hno : quadN 3 (bl s) 0 = none := by rw [HS2.out, if_neg hmk]
            have HNO := Lib.hid hno
            obtain rfl | rfl | rfl | rfl : k = 0 ∨ k = 1 ∨ k = 2 ∨ k = 3 := by omega
            all_goals
              cases more
              all_goals (first | exact absurd rfl hmk | skip)
              clear hno hmk
              go_wp2_with fail
              refine bodyPost_ret (v := .tuple #[adv ⟨false, 0⟩, .bool false]) (by simp [results, Try.results24, go_sem, adv, r0, r1]) rfl ⟨⟨false, 0⟩, false, rfl, ?_, by decide, ?_⟩
              · show readL (bl s) = none
                rw [readL_four H6.out, HNO.out]; rfl
              · exact (((below_drewN hr.out.2.below n1).setCell (Nat.le_refl _) _).setCell (Nat.le_refl _) _)

end Go.Proofs.Ytnehofekgnbelaa

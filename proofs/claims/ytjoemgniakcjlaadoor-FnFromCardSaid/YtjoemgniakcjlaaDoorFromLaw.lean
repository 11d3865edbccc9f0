/-
  The law FnFrom.
-/
import Derived.Test.YtjoemgniakcjlaaDoorFrom
import Derived.Test.YtjoemgniakcjlaaDoorGreater
namespace Go.Proofs.YtjoemgniakcjlaaDoor
open Go.RowKit
set_option linter.unusedVariables false

def ver (j : Nat) : ByteArray := VERS.getD j ByteArray.empty

def fromB (m : ByteArray) : Bool → List ByteArray → List ByteArray
  | _, [] => []
  | ok, v :: r => if (ok || (bl v == bl m)) = true then v :: fromB m true r else fromB m false r
theorem fromA_eq (m : ByteArray) : ∀ (ok : Bool) (l : List ByteArray), fromA m ok l = fromB m ok l
  | _, [] => rfl
  | ok, v :: r => by
    unfold fromA fromB
    rw [Lib.toList_data, Lib.toList_data, fromA_eq m true r, fromA_eq m false r]
    rfl

theorem from_all : fromA V0 false VERS = VERS := by rw [fromA_eq]; decide
theorem from_none : fromA ⟨#[48, 46, 49, 46, 49]⟩ false VERS = [] := by rw [fromA_eq]; decide
theorem from_at (j : Nat) (hj : j < 7) : fromA (ver j) false VERS = VERS.drop j := by
  rw [fromA_eq]
  have h7 : j = 0 ∨ j = 1 ∨ j = 2 ∨ j = 3 ∨ j = 4 ∨ j = 5 ∨ j = 6 := by omega
  rcases h7 with rfl | rfl | rfl | rfl | rfl | rfl | rfl <;> decide
theorem ver_size (j : Nat) (hj : j < 7) : (ver j).size ≤ 64 := by
  have h7 : j = 0 ∨ j = 1 ∨ j = 2 ∨ j = 3 ∨ j = 4 ∨ j = 5 ∨ j = 6 := by omega
  rcases h7 with rfl | rfl | rfl | rfl | rfl | rfl | rfl <;> decide

def numA (j : Nat) : Int := if j < 5 then 0 else 1
def numB (j : Nat) : Int := [1, 2, 3, 3, 4, 0, 1].getD j 0
def numC (j : Nat) : Int := if j = 3 then 1 else 0
theorem ver_is (j : Nat) (hj : j < 7) : VerIs (ver j) (numA j) (numB j) (numC j) := by
  have h7 : j = 0 ∨ j = 1 ∨ j = 2 ∨ j = 3 ∨ j = 4 ∨ j = 5 ∨ j = 6 := by omega
  rcases h7 with rfl | rfl | rfl | rfl | rfl | rfl | rfl
  · exact ⟨[0, 1, 0], by decide, rfl, rfl, rfl⟩
  · exact ⟨[0, 2, 0], by decide, rfl, rfl, rfl⟩
  · exact ⟨[0, 3, 0], by decide, rfl, rfl, rfl⟩
  · exact ⟨[0, 3, 1], by decide, rfl, rfl, rfl⟩
  · exact ⟨[0, 4, 0], by decide, rfl, rfl, rfl⟩
  · exact ⟨[1, 0, 0], by decide, rfl, rfl, rfl⟩
  · exact ⟨[1, 1, 0], by decide, rfl, rfl, rfl⟩
theorem ver_up (j : Nat) (hj : j + 1 < 7) : decide (0 < ord3 (numA (j + 1)) (numB (j + 1)) (numC (j + 1)) (numA j) (numB j) (numC j)) = true := by
  have h7 : j = 0 ∨ j = 1 ∨ j = 2 ∨ j = 3 ∨ j = 4 ∨ j = 5 := by omega
  rcases h7 with rfl | rfl | rfl | rfl | rfl | rfl <;> decide
theorem above_up (j : Nat) (hj : j + 1 < 7) (w : World) :
    Calls Tryd.prog 9 #[.string (ver (j + 1)), .string (ver j)] w (TwoPost true true w) := by
  have h := above_ok (ver (j + 1)) (ver j) _ _ _ _ _ _ w (ver_is (j + 1) hj) (ver_is j (by omega))
  rw [ver_up j hj] at h
  exact h
theorem drop_getD (j i : Nat) (h : j + i < 7) : (strVals (VERS.drop j)).getD i undef = .string (ver (j + i)) := by
  have hl : i < (VERS.drop j).length := by rw [List.length_drop]; show i < 7 - j; omega
  rw [strVals_getD _ i hl]
  congr 1
  unfold ver
  rw [List.getD_eq_getElem?_getD, List.getElem?_drop, ← List.getD_eq_getElem?_getD]

set_option maxHeartbeats 2000000 in
set_option maxRecDepth 100000 in
theorem lawFrom (i : Int) (w : World) (wi : (Lit.int .i64 i).wf = true) : Calls Tryd.prog 5 #[.int .i64 i] w (LawPost w) := by
  have hbd : -9223372036854775808 ≤ i ∧ i ≤ 9223372036854775807 := by simpa [Lit.wf, IntKind.min, IntKind.max, IntKind.signed, IntKind.bits] using wi
  obtain ⟨hlo, hhi⟩ := hbd
  clear wi
  by_cases hneg : i < 0
  · go_enter Tryd.func5, Tryd.ntmps5
    go_wp2_with fail
    refine (from_yes V0 VERS _ (by decide) from_all (by decide)).mono ?_
    rintro e w1 ⟨v, rfl, hs, hb⟩
    go_wp2_with fail
    go_ret
    exact ⟨rfl, hb⟩
  · obtain ⟨j, hj⟩ : ∃ j : Nat, i % 7 = (j : Int) := ⟨(i % 7).toNat, by omega⟩
    have hj7 : j < 7 := by omega
    have h0 : 0 ≤ i := by omega
    have t0 : decide (i < 0) = false := by simp; omega
    go_enter Tryd.func5, Tryd.ntmps5
    go_wp2_with fail
    refine (from_yes V0 VERS _ (by decide) from_all (by decide)).mono ?_
    rintro e w1 ⟨v, rfl, hs, hb1⟩
    rcases hs.out with ⟨hx, _⟩ | ⟨b1, off1, cap1, rfl, hbs1, _, _, _, hc1⟩
    · exact absurd hx (by decide)
    have hl7 : (strVals VERS).length = 7 := rfl
    rw [hl7] at hc1 ⊢
    have hcj := hc1 j hj7
    have hcv : (strVals VERS).getD j undef = .string (ver j) := drop_getD 0 j (by omega) |>.trans (by rw [Nat.zero_add])
    rw [hcv] at hcj
    have HC1 := Lib.hid hc1
    clear hs hc1 hl7 hcv
    go_wp2_with fail
    rw [hj]
    have HJ := Lib.hid hj
    clear hj hneg h0
    refine (from_yes (ver j) (VERS.drop j) _ (ver_size j hj7) (from_at j hj7) (by rw [List.length_drop]; show 0 < 7 - j; omega)).mono ?_
    rintro e w2 ⟨v, rfl, hs, hb2⟩
    have hln : (strVals (VERS.drop j)).length = 7 - j := by rw [strVals_length, List.length_drop]; rfl
    rcases hs.out with ⟨hx, _⟩ | ⟨b2, off2, cap2, rfl, hbs2, _, _, _, hc2⟩
    · exfalso
      rw [hx] at hln
      simp at hln
      omega
    obtain ⟨n, hn⟩ : ∃ n, 7 - j = n := ⟨_, rfl⟩
    rw [hln, hn] at hc2 ⊢
    have hjn : j + n = 7 := by omega
    have HC2 := Lib.hid hc2
    clear hs hc2 hln hn hcj
    go_wp2_with fail
    refine (from_no ⟨#[48, 46, 49, 46, 49]⟩ _ (by decide) from_none).mono ?_
    rintro e w3 ⟨v3, rfl, hb3⟩
    have hall : ∀ k, k < 7 → w3.cell? ⟨b1, off1 + k, none⟩ = some (.string (ver k)) := fun k hk => by
      rw [hb3.cell (p := ⟨b1, off1 + k, none⟩) (Nat.lt_of_lt_of_le hbs1 hb2.size), hb2.cell (p := ⟨b1, off1 + k, none⟩) hbs1, HC1.out k hk]
      exact congrArg some ((drop_getD 0 k (by omega)).trans (by rw [Nat.zero_add]))
    have hl : ∀ k, k < n → w3.cell? ⟨b2, off2 + k, none⟩ = some (.string (ver (j + k))) := fun k hk => by
      rw [hb3.cell (p := ⟨b2, off2 + k, none⟩) hbs2, HC2.out k hk]
      exact congrArg some (drop_getD j k (by omega))
    have hB1 : b1 < w3.heap.size := by have := hb2.size; have := hb3.size; omega
    have hB2 : b2 < w3.heap.size := by have := hb3.size; omega
    have hfin := below_tr (below_tr hb1 hb2) hb3
    have HALL := Lib.hid hall
    have HL := Lib.hid hl
    have HF := Lib.hid hfin
    have t1 : ((n : Int) != 7 - (j : Int)) = false := by simp; omega
    clear hall hl hfin hb1 hb2 hb3 HC1 HC2 hbs1 hbs2
    go_wp2_with fail
    go_loopw [58] (fun p wr => ∃ k : Nat, k ≤ n ∧ p = .int .i64 k ∧ Hid (Below w3.heap.size w3 wr)) (fun p _ => n - (intOf p).toNat)
    case atStart => exact ⟨0, Nat.zero_le _, rfl, Below.refl _ _⟩
    case round =>
      obtain ⟨k, hk, rfl, HB⟩ := hrel
      by_cases hlt : k < n
      · have cl : wr.cell? ⟨b2, off2 + k, none⟩ = some (.string (ver (j + k))) := (HB.out.cell (p := ⟨b2, off2 + k, none⟩) hB2).trans (HL.out k hlt)
        have ca : wr.cell? ⟨b1, off1 + (j + k), none⟩ = some (.string (ver (j + k))) := (HB.out.cell (p := ⟨b1, off1 + (j + k), none⟩) hB1).trans (HALL.out (j + k) (by omega))
        cases k with
        | zero =>
          simp only [Nat.add_zero] at cl ca
          go_wp2_with fail
          go_roundw
          case rel => exact ⟨1, by omega, rfl, HB.out⟩
          case measure => simp [intOf]; omega
        | succ q =>
          have cq : wr.cell? ⟨b2, off2 + q, none⟩ = some (.string (ver (j + q))) := (HB.out.cell (p := ⟨b2, off2 + q, none⟩) hB2).trans (HL.out q (by omega))
          go_wp2_with fail
          refine (above_up (j + q) (by omega) _).mono ?_
          rintro e w4 ⟨rfl, hb4⟩
          go_wp2_with fail
          go_roundw
          case rel => exact ⟨q + 1 + 1, by omega, by go_num, below_tr HB.out hb4⟩
          case measure => simp [intOf]; omega
      · obtain rfl : k = n := by omega
        go_wp2_with fail
        go_ret
        exact ⟨rfl, below_tr HF.out HB.out⟩

end Go.Proofs.YtjoemgniakcjlaaDoor

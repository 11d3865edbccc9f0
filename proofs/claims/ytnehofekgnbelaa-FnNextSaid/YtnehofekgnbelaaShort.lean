/-
  impl.short: texts of at most 64 bytes.
-/
import Derived.Test.YtnehofekgnbelaaBase
namespace Go.Proofs.Ytnehofekgnbelaa
open Go.RowKit

/-- Is some text longer than 64 bytes? -/
def longIn (ss : List ByteArray) : Bool := ss.any fun s => decide (64 < (s.size : Int))
def strVals (ss : List ByteArray) : List Value := ss.map Value.string

theorem strVals_length (ss : List ByteArray) : (strVals ss).length = ss.length := by simp [strVals]
theorem strVals_getD (ss : List ByteArray) (i : Nat) (h : i < ss.length) : (strVals ss).getD i undef = .string (ss.getD i ByteArray.empty) := by
  simp [strVals, List.getD_eq_getElem?_getD, List.getElem?_eq_getElem h]

theorem longIn_of (ss : List ByteArray) (k : Nat) (hk : k < ss.length) (h : 64 < ((ss.getD k ByteArray.empty).size : Int)) : longIn ss = true := by
  unfold longIn
  rw [List.any_eq_true]
  refine ⟨ss.getD k ByteArray.empty, ?_, by simpa using h⟩
  rw [List.getD_eq_getElem?_getD, List.getElem?_eq_getElem hk]
  exact List.getElem_mem hk

theorem longIn_no (ss : List ByteArray) (h : ∀ j, j < ss.length → ((ss.getD j ByteArray.empty).size : Int) ≤ 64) : longIn ss = false := by
  unfold longIn
  rw [List.any_eq_false]
  intro s hs
  obtain ⟨k, hk, rfl⟩ := List.getElem_of_mem hs
  have := h k hk
  rw [List.getD_eq_getElem?_getD, List.getElem?_eq_getElem hk] at this
  simpa using this

set_option maxHeartbeats 400000 in
theorem short1_any (s : ByteArray) (w : World) :
    Calls Try.prog 46 #[.string s] w fun e w' => e = .returned (.bool (decide (64 < (s.size : Int)))) ∧ w = w' := by
  go_enter Try.func46, Try.ntmps46
  go_wp2
  go_ret
  exact ⟨rfl, rfl⟩

def IdxPost (w : World) (ss : List ByteArray) (e : Ending) (w' : World) : Prop := ∃ r : Int, e = .returned (.int .i64 r) ∧ decide (0 ≤ r) = longIn ss ∧ w = w'

set_option maxHeartbeats 400000 in
theorem idxShort_none (a : Option Addr) (cap : Nat) (w : World) :
    Calls Try.prog 66 #[.slice a 0 cap, .func (.func 46) #[] #[]] w fun e w' => e = .returned (.int .i64 (-1)) ∧ w = w' := by
  go_enter Try.func66, Try.ntmps66
  go_wp2
  refine wp_loop_rounds 1 ?_
  rw [rounds_succ]
  go_wp2
  go_ret
  exact ⟨rfl, rfl⟩

set_option maxHeartbeats 400000 in
theorem idxShort_some (b off : Nat) (n cap : Nat) (ss : List ByteArray) (w : World) (hn : ss.length = n) (hm : n ≤ 9223372036854775807)
    (hc : ∀ i, i < n → w.cell? ⟨b, off + i, none⟩ = some (.string (ss.getD i ByteArray.empty))) :
    Calls Try.prog 66 #[.slice (some ⟨b, off, none⟩) n cap, .func (.func 46) #[] #[]] w (IdxPost w ss) := by
  have HN := Lib.hid hn
  have HC := Lib.hid hc
  clear hn hc
  go_enter Try.func66, Try.ntmps66
  go_wp2
  go_loop [8] (fun i => ∃ k : Nat, k ≤ n ∧ i = .int .i64 k ∧ Hid (∀ j, j < k → ((ss.getD j ByteArray.empty).size : Int) ≤ 64)) (fun i => n - (intOf i).toNat)
  case atStart => exact ⟨0, Nat.zero_le _, rfl, fun j hj => by omega⟩
  case round =>
    obtain ⟨k, hk, rfl, hall⟩ := hrel
    by_cases hlt : k < n
    · have hcell := HC.out k hlt
      generalize hx : ss.getD k ByteArray.empty = x at hcell
      have HX := Lib.hid hx
      clear hx
      by_cases hl : 64 < (x.size : Int)
      · have hd : decide (64 < (x.size : Int)) = true := by simpa using hl
        go_wp2_with (go_at_call 46; refine (short1_any _ _).mono ?_; rintro e w' ⟨rfl, rfl⟩)
        go_ret
        exact ⟨k, rfl, by rw [longIn_of ss k (by rw [HN.out]; exact hlt) (by rw [HX.out]; exact hl)]; simp, rfl⟩
      · have hd : decide (64 < (x.size : Int)) = false := by simpa using hl
        go_wp2_with (go_at_call 46; refine (short1_any _ _).mono ?_; rintro e w' ⟨rfl, rfl⟩)
        go_round
        case rel => exact ⟨k + 1, by omega, by go_num, fun j hj => by
          by_cases hjk : j = k
          · rw [hjk, HX.out]; omega
          · exact hall.out j (by omega)⟩
        case measure => simp [intOf]; omega
    · obtain rfl : k = n := by omega
      go_wp2
      go_ret
      exact ⟨-1, rfl, by rw [longIn_no ss (fun j hj => hall.out j (by rw [← HN.out]; exact hj))]; decide, rfl⟩

theorem idxShort (v : Value) (ss : List ByteArray) (w : World) (h : SlAt w v (strVals ss)) :
    Calls Try.prog 66 #[v, .func (.func 46) #[] #[]] w (IdxPost w ss) := by
  rcases h.out with ⟨h0, ao, cap, rfl, _⟩ | ⟨b, off, cap, rfl, hb, hl, hm, h0, hc⟩
  · have hs : ss = [] := by cases ss; rfl; cases h0
    subst hs
    refine (idxShort_none ao cap w).mono ?_
    rintro e w' ⟨rfl, rfl⟩
    exact ⟨-1, rfl, by decide, rfl⟩
  · rw [strVals_length] at hl hc ⊢
    refine idxShort_some b off ss.length cap ss w rfl (by unfold maxLen at hm; omega) fun i hi => ?_
    rw [hc i hi, strVals_getD ss i hi]

set_option maxHeartbeats 400000 in
theorem containsShort (v : Value) (ss : List ByteArray) (w : World) (h : SlAt w v (strVals ss)) :
    Calls Try.prog 45 #[v, .func (.func 46) #[] #[]] w fun e w' => e = .returned (.bool (longIn ss)) ∧ w = w' := by
  have H := Lib.hid h
  clear h
  go_enter Try.func45, Try.ntmps45
  go_wp2_with (go_at_call 66; refine (idxShort _ _ _ H.out).mono ?_; rintro e w' ⟨r, rfl, hr, rfl⟩; have HR := Lib.hid hr; clear hr)
  go_ret
  exact ⟨ret_bool (by rw [← HR.out]), rfl⟩

set_option maxHeartbeats 400000 in
theorem short_any (v : Value) (ss : List ByteArray) (w : World) (h : SlAt w v (strVals ss)) :
    Calls Try.prog 25 #[v] w fun e w' => e = .returned (.bool (!longIn ss)) ∧ w = w' := by
  have H := Lib.hid h
  clear h
  go_enter Try.func25, Try.ntmps25
  go_wp2_with (go_at_call 45; refine (containsShort _ _ _ H.out).mono ?_; rintro e w' ⟨rfl, rfl⟩)
  go_ret
  exact ⟨rfl, rfl⟩

theorem short_yes (v : Value) (ss : List ByteArray) (w : World) (h : SlAt w v (strVals ss)) (hl : longIn ss = false) :
    Calls Try.prog 25 #[v] w fun e w' => e = .returned (.bool true) ∧ w = w' :=
  (short_any v ss w h).mono fun e w' ⟨he, hw⟩ => ⟨by rw [he, hl]; rfl, hw⟩
theorem short_not (v : Value) (ss : List ByteArray) (w : World) (h : SlAt w v (strVals ss)) (hl : longIn ss = true) :
    Calls Try.prog 25 #[v] w fun e w' => e = .returned (.bool false) ∧ w = w' :=
  (short_any v ss w h).mono fun e w' ⟨he, hw⟩ => ⟨by rw [he, hl]; rfl, hw⟩

/-- A slice of one text, just laid. -/
theorem slat_one (w : World) (s : ByteArray) : SlAt (w.alloc (.cells #[.string s] 9)) (.slice (some ⟨w.heap.size, 0, none⟩) 1 1) (strVals [s]) :=
  SlAt.mk (xs := strVals [s]) (by simp [strVals]) (by unfold maxLen; simp) fun i hi => by
    have : i = 0 := by simp [strVals] at hi; omega
    subst this
    simp [strVals, go_sem]

end Go.Proofs.Ytnehofekgnbelaa

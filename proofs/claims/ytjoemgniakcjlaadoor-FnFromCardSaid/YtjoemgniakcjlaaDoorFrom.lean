/-
  impl.From: the versions from one on.
-/
import Derived.Test.YtjoemgniakcjlaaDoorPlug
import Derived.Test.YtjoemgniakcjlaaDoorTried
namespace Go.Proofs.YtjoemgniakcjlaaDoor
open Go.RowKit
set_option linter.unusedVariables false

theorem SlAt.set {w : World} {v : Value} {xs : List Value} (h : SlAt w v xs) {p : Addr} {z : Value} (hp : ∀ u ∈ xs, w.cell? p ≠ some u) : SlAt (w.setCell p z) v xs := by
  obtain ⟨ao, cap, rfl, hl, hm, hn, hc⟩ := h
  refine ⟨ao, cap, rfl, hl, hm, hn, fun a ha j u hu => ?_⟩
  have hcell := hc a ha j u hu
  have hne : a.add j ≠ p := fun e => hp u (List.mem_of_getElem? hu) (by rw [← e]; exact hcell)
  rw [World.cell?_setCell_other _ _ _ _ (by first | exact hne | exact hne.symm)]
  exact hcell

theorem slat_one_at (W : World) (b : Nat) (s : ByteArray) (hb : W.heap.size = b) : SlAt (W.alloc (.cells #[.string s] 9)) (.slice (some ⟨b, 0, none⟩) 1 1) (strVals [s]) := by
  subst hb
  exact slat_one W s

theorem enters_from (args : Array Value) (w : World) : (callFunc 19 args).run Tryd.prog w = .ok (.enter 19 args) w := by kernel_rfl

def From1Yes (w : World) (B : Nat) (xs : List Value) (w' : World) : Prop := ∃ w1 v, Below w.heap.size w w1 ∧ SlAt w1 v xs ∧ w' = w1.setCell ⟨B, 0, none⟩ v

set_option maxHeartbeats 1000000 in
theorem from1_yes (A B : Nat) (m : ByteArray) (x : Value) (xs : List ByteArray) (w : World) (hA : w.cell? ⟨A, 0, none⟩ = some (.string m)) (hB : w.cell? ⟨B, 0, none⟩ = some x) (hz : w.frozen? ⟨B, 0, none⟩ = false) (hBl : B < w.heap.size)
    (hx : fromA m false VERS = xs) (h0 : 0 < xs.length) :
    Calls Tryd.prog 19 #[.pointer (some ⟨A, 0, none⟩), .pointer (some ⟨B, 0, none⟩)] w fun e w' => e = .returned (.tuple #[]) ∧ From1Yes w B (strVals xs) w' := by
  have hle : xs.length ≤ 7 := by rw [← hx]; exact fromA_le m false VERS
  have HX := Lib.hid hx
  clear hx
  go_enter Tryd.func19, Tryd.ntmps19
  go_wp2_with fail
  refine from_any m w _ ?_ ?_
  · intro ys hy hpos e w1 hpost
    obtain rfl : ys = xs := by rw [← hy, HX.out]
    obtain ⟨v, rfl, ⟨b, sv, rfl, hc, hs⟩, hb1⟩ := hpost
    have HS := Lib.hid hs
    clear hs hy
    go_wp2_with (first | (go_at_call 73; refine (told_any _ _ _ hc).mono ?_; rintro e w' ⟨rfl, rfl⟩))
    refine (clone_any _ ys _ (by omega) HS.out).mono ?_
    rintro e w2 ⟨v, rfl, hs2, hb2⟩
    have hb := below_tr hb1 hb2
    have cB := (hb.cell (p := ⟨B, 0, none⟩) hBl).trans hB
    have zB := (hb.frozen (p := ⟨B, 0, none⟩) hBl).trans hz
    obtain ⟨ao, cap, rfl, _⟩ := hs2.len
    have HB := Lib.hid hb
    have HS2 := Lib.hid hs2
    clear hb1 hb2 hb hs2
    go_wp2_with fail
    go_end0
    exact ⟨rfl, w2, _, HB.out, HS2.out, rfl⟩
  · intro hy
    exfalso
    rw [HX.out] at hy
    rw [hy] at h0
    exact absurd h0 (by decide)

set_option maxHeartbeats 1000000 in
theorem from1_no (A B : Nat) (m : ByteArray) (w : World) (hA : w.cell? ⟨A, 0, none⟩ = some (.string m)) (hx : fromA m false VERS = []) :
    Calls Tryd.prog 19 #[.pointer (some ⟨A, 0, none⟩), .pointer (some ⟨B, 0, none⟩)] w (PanicPost w) := by
  have HX := Lib.hid hx
  clear hx
  go_enter Tryd.func19, Tryd.ntmps19
  go_wp2_with fail
  refine from_any m w _ ?_ ?_
  · intro ys hy hpos
    exfalso
    rw [← hy, HX.out] at hpos
    exact absurd hpos (by decide)
  · intro hy e w1 hpost
    obtain ⟨rfl, hb⟩ := hpost
    go_wp2_with fail
    exact ⟨rfl, rfl, hb⟩

def FromPost (w : World) (xs : List Value) (e : Ending) (w' : World) : Prop := ∃ v, e = .returned (.tuple #[v, .bool true]) ∧ SlAt w' v xs ∧ Below w.heap.size w w'
def FromNot (w : World) (e : Ending) (w' : World) : Prop := ∃ v, e = .returned (.tuple #[v, .bool false]) ∧ Below w.heap.size w w'

/-- The world in which From asks: the text's box, the result's box, the list of one text. -/
def fromIn (m : ByteArray) (w : World) : World := ((w.alloc (.cells #[.string m] 9)).alloc (.cells #[.slice none 0 0] 32)).alloc (.cells #[.string m] 9)

theorem fromIn_size (m : ByteArray) (w : World) : (fromIn m w).heap.size = w.heap.size + 1 + 1 + 1 := by simp [fromIn]
theorem triedIn_size (w : World) : (triedIn w).heap.size = w.heap.size + 1 := by simp [triedIn]
theorem fromIn_A (m : ByteArray) (w : World) : (triedIn (fromIn m w)).cell? ⟨w.heap.size, 0, none⟩ = some (.string m) := by simp [triedIn, fromIn, go_sem]
theorem fromIn_B (m : ByteArray) (w : World) : (triedIn (fromIn m w)).cell? ⟨w.heap.size + 1, 0, none⟩ = some (.slice none 0 0) := by simp [triedIn, fromIn, go_sem]
theorem fromIn_Z (m : ByteArray) (w : World) : (triedIn (fromIn m w)).frozen? ⟨w.heap.size + 1, 0, none⟩ = false := by simp [triedIn, fromIn, go_sem]
theorem fromIn_below (m : ByteArray) (w : World) : Below w.heap.size w (fromIn m w) := by unfold fromIn; go_grown
theorem triedIn_below (w : World) : Below w.heap.size w (triedIn w) := by unfold triedIn; go_grown
theorem triedIn_new (w : World) : (triedIn w).heap[w.heap.size]? = some (.cells #[.bool false] 4 (0, 0)) := heap_alloc_new w _

def TryYes (w : World) (xs : List Value) (e : Ending) (w' : World) : Prop := e = .returned (.bool true) ∧ ∃ v, w'.cell? ⟨w.heap.size + 1, 0, none⟩ = some v ∧ SlAt w' v xs ∧ Below w.heap.size w w'
def TryNo (w : World) (e : Ending) (w' : World) : Prop := e = .returned (.bool false) ∧ w'.cell? ⟨w.heap.size + 1, 0, none⟩ = some (.slice none 0 0) ∧ Below w.heap.size w w'

theorem try_yes (m : ByteArray) (xs : List ByteArray) (w : World) (hx : fromA m false VERS = xs) (h0 : 0 < xs.length) :
    Calls Tryd.prog 18 #[.func (.func 19) #[] #[.pointer (some ⟨w.heap.size, 0, none⟩), .pointer (some ⟨w.heap.size + 1, 0, none⟩)]] (fromIn m w) (TryYes w (strVals xs)) := by
  refine (tried_ok _ _ _ (From1Yes (triedIn (fromIn m w)) (w.heap.size + 1) (strVals xs)) enters_from
    (from1_yes w.heap.size (w.heap.size + 1) m _ xs _ (fromIn_A m w) (fromIn_B m w) (fromIn_Z m w) (by rw [triedIn_size, fromIn_size]; omega) hx h0) ?_).mono ?_
  · rintro w' ⟨w1, v, hb, hs, rfl⟩
    rw [Below.heap_setCell _ _ _ _ (by rw [fromIn_size]; simp; omega), hb.block _ (by rw [triedIn_size]; omega)]
    exact triedIn_new _
  · rintro e w' ⟨rfl, w2, ⟨w1, v, hb, hs, rfl⟩, rfl⟩
    have hB1 : w1.cell? ⟨w.heap.size + 1, 0, none⟩ = some (.slice none 0 0) := (hb.cell (p := ⟨w.heap.size + 1, 0, none⟩) (by rw [triedIn_size, fromIn_size]; show w.heap.size + 1 < _; omega)).trans (fromIn_B m w)
    have hT1 : w1.cell? ⟨(fromIn m w).heap.size, 0, none⟩ = some (.bool false) := by
      rw [hb.cell (p := ⟨(fromIn m w).heap.size, 0, none⟩) (by rw [triedIn_size]; show (fromIn m w).heap.size < _; omega)]
      exact cell_of_row _ _ 0 _ _ _ (triedIn_new _)
    have hne : (⟨w.heap.size + 1, 0, none⟩ : Addr) ≠ ⟨(fromIn m w).heap.size, 0, none⟩ := by rw [fromIn_size]; simp
    have hs1 : SlAt (w1.setCell ⟨w.heap.size + 1, 0, none⟩ v) v (strVals xs) := hs.set fun u hu => by
      rw [hB1]
      simp only [strVals, List.mem_map] at hu
      obtain ⟨s, _, rfl⟩ := hu
      simp
    refine ⟨rfl, v, ?_, hs1.set fun u hu => ?_, ?_⟩
    · rw [World.cell?_setCell_other _ _ _ _ hne.symm]
      exact World.cell?_setCell_same _ _ _ hB1
    · rw [World.cell?_setCell_other _ _ _ _ hne, hT1]
      simp only [strVals, List.mem_map] at hu
      obtain ⟨s, _, rfl⟩ := hu
      simp
    · exact (((below_tr (fromIn_below m w) (below_tr (triedIn_below _) hb)).setCell (by simp) _).setCell (by rw [fromIn_size]; simp; omega) _)

theorem try_no (m : ByteArray) (w : World) (hx : fromA m false VERS = []) :
    Calls Tryd.prog 18 #[.func (.func 19) #[] #[.pointer (some ⟨w.heap.size, 0, none⟩), .pointer (some ⟨w.heap.size + 1, 0, none⟩)]] (fromIn m w) (TryNo w) := by
  refine (tried_panic _ _ _ (fun w' => Below (triedIn (fromIn m w)).heap.size (triedIn (fromIn m w)) w') 9 plugText enters_from ?_ ?_).mono ?_
  · refine (from1_no w.heap.size (w.heap.size + 1) m _ (fromIn_A m w) hx).mono ?_
    rintro e w' ⟨rfl, hb⟩
    exact ⟨rfl, hb⟩
  · intro w' hb
    rw [hb.block _ (by rw [triedIn_size]; omega)]
    exact triedIn_new _
  · rintro e w' ⟨rfl, w1, hb, rfl⟩
    have hB1 : w1.cell? ⟨w.heap.size + 1, 0, none⟩ = some (.slice none 0 0) := (hb.cell (p := ⟨w.heap.size + 1, 0, none⟩) (by rw [triedIn_size, fromIn_size]; show w.heap.size + 1 < _; omega)).trans (fromIn_B m w)
    have hne : (⟨w.heap.size + 1, 0, none⟩ : Addr) ≠ ⟨(fromIn m w).heap.size, 0, none⟩ := by rw [fromIn_size]; simp
    refine ⟨rfl, ?_, ?_⟩
    · rw [World.cell?_setCell_other _ _ _ _ hne.symm]
      exact hB1
    · exact ((below_tr (fromIn_below m w) (below_tr (triedIn_below _) hb)).setCell (by rw [fromIn_size]; simp; omega) _)

set_option maxHeartbeats 1000000 in
theorem from_yes (m : ByteArray) (xs : List ByteArray) (w : World) (hl : m.size ≤ 64) (hx : fromA m false VERS = xs) (h0 : 0 < xs.length) :
    Calls Tryd.prog 11 #[.string m] w (FromPost w (strVals xs)) := by
  have hl1 : longIn [m] = false := by simp [longIn]; omega
  have HL := Lib.hid hl1
  have HX := Lib.hid hx
  clear hl1 hx
  have hmf : ∀ (fn : Fn) (first cap : Array Value) (w : World), (Instr.makeFunc fn first cap).run Tryd.prog w = .ok (.func fn first cap) w := fun _ _ _ _ => rfl
  go_enter Tryd.func11, Tryd.ntmps11
  go_wp2_with fail
  refine (short_yes _ [m] _ (slat_one_at _ _ _ (by simp)) HL.out).mono ?_
  rintro e w' ⟨rfl, rfl⟩
  go_wp2_with fail
  refine (try_yes m xs w HX.out h0).mono ?_
  rintro e w1 ⟨rfl, v, hc, hs, hb⟩
  go_wp2_with fail
  go_ret2
  exact ⟨v, rfl, hs, hb⟩

set_option maxHeartbeats 1000000 in
theorem from_no (m : ByteArray) (w : World) (hl : m.size ≤ 64) (hx : fromA m false VERS = []) :
    Calls Tryd.prog 11 #[.string m] w (FromNot w) := by
  have hl1 : longIn [m] = false := by simp [longIn]; omega
  have HL := Lib.hid hl1
  have HX := Lib.hid hx
  clear hl1 hx
  have hmf : ∀ (fn : Fn) (first cap : Array Value) (w : World), (Instr.makeFunc fn first cap).run Tryd.prog w = .ok (.func fn first cap) w := fun _ _ _ _ => rfl
  go_enter Tryd.func11, Tryd.ntmps11
  go_wp2_with fail
  refine (short_yes _ [m] _ (slat_one_at _ _ _ (by simp)) HL.out).mono ?_
  rintro e w' ⟨rfl, rfl⟩
  go_wp2_with fail
  refine (try_no m w HX.out).mono ?_
  rintro e w1 ⟨rfl, hc, hb⟩
  go_wp2_with fail
  go_ret2
  exact ⟨_, rfl, hb⟩

end Go.Proofs.YtjoemgniakcjlaaDoor

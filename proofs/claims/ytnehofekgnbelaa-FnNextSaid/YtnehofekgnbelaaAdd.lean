/-
  cniip: a whole number as bytes, more or less one.
-/
import Derived.Test.YtnehofekgnbelaaCmp
import Derived.Test.YtnehofekgnbelaaP6
namespace Go.Proofs.Ytnehofekgnbelaa
open Go.RowKit
set_option linter.unusedVariables false
set_option maxRecDepth 100000
set_option maxHeartbeats 1000000

/-- The block holds these bytes at its beginning. -/
def RowAt (w : World) (g : Nat) (l : List UInt8) : Prop := ∃ cur, w.heap[g]? = some (.cells cur 5 (0, 0)) ∧ cur.toList.take l.length = ipv l

theorem RowAt.size {cur : Array Value} {l : List UInt8} (h : cur.toList.take l.length = ipv l) : l.length ≤ cur.size := by
  have := congrArg List.length h
  rw [List.length_take, ipv_length] at this
  have e : cur.toList.length = cur.size := by simp
  omega
theorem RowAt.cell {w : World} {g : Nat} {l : List UInt8} (h : RowAt w g l) (i : Nat) (hi : i < l.length) : w.cell? ⟨g, i, none⟩ = some (.int .u8 (l.getD i 0).toNat) := by
  obtain ⟨cur, hg, ht⟩ := h
  have hs := RowAt.size ht
  rw [cell_of_row w g i cur _ _ hg]
  have h1 : (cur.toList.take l.length)[i]? = some (.int .u8 (l.getD i 0).toNat) := by
    rw [ht, ← ipv_getD l i hi, List.getD_eq_getElem?_getD, List.getElem?_eq_getElem (by rw [ipv_length]; exact hi)]
    rfl
  rw [List.getElem?_take, if_pos hi] at h1
  simpa using h1
theorem RowAt.free {w : World} {g : Nat} {l : List UInt8} (h : RowAt w g l) (i : Nat) : w.frozen? ⟨g, i, none⟩ = false := by
  obtain ⟨cur, hg, _⟩ := h
  exact frozen_of_row w g i cur _ hg
theorem RowAt.store {w : World} {g : Nat} {l : List UInt8} (h : RowAt w g l) (i : Nat) (x : UInt8) : RowAt (w.setCell ⟨g, i, none⟩ (.int .u8 x.toNat)) g (l.set i x) := by
  obtain ⟨cur, hg, ht⟩ := h
  refine ⟨_, heap_setCell_same w g i cur _ _ hg, ?_⟩
  rw [Array.toList_setIfInBounds, List.length_set, List.take_set, ht]
  simp [ipv, List.map_set, u8v]
theorem RowAt.sl {w : World} {g cap : Nat} {l : List UInt8} (h : RowAt w g l) (hl : l.length ≤ cap) (hm : cap ≤ maxLen) : SlAt w (.slice (some ⟨g, 0, none⟩) l.length cap) (ipv l) := by
  have := SlAt.mk (w := w) (b := g) (off := 0) (cap := cap) (xs := ipv l) (by rw [ipv_length]; exact hl) hm (fun i hi => by
    rw [ipv_length] at hi
    rw [Nat.zero_add, h.cell i hi, ipv_getD l i hi])
  rw [ipv_length] at this
  exact this

/- PLAIN: more or less one -/
theorem val_replicate0 (k : Nat) : val (List.replicate k 0) = 0 := by
  induction k with
  | zero => rfl
  | succ k ih => rw [List.replicate_succ, val_cons, ih]; simp
theorem val_replicate255 (k : Nat) : val (List.replicate k 255) + 1 = 256 ^ k := by
  induction k with
  | zero => rfl
  | succ k ih =>
    rw [List.replicate_succ, val_cons, List.length_replicate, Nat.pow_succ, Nat.add_assoc, ih]
    have : (255 : UInt8).toNat = 255 := rfl
    rw [this]
    omega
theorem set_mid (a r : List UInt8) (x y : UInt8) : (a ++ x :: r).set a.length y = a ++ y :: r := by
  rw [List.set_append_right _ _ (Nat.le_refl _)]; simp
theorem take_mid (l : List UInt8) (i : Nat) (hi : i < l.length) : l.take (i + 1) = l.take i ++ [l.getD i 0] := by
  rw [List.take_succ_eq_append_getElem hi, List.getD_eq_getElem?_getD, List.getElem?_eq_getElem hi]; rfl

/-- The state of the loop: at place i; behind it all are z, where o held c. -/
structure Inc (o : List UInt8) (z c : UInt8) (i : Nat) (cur : List UInt8) : Prop where
  lt : i < o.length
  cur : cur = o.take (i + 1) ++ List.replicate (o.length - 1 - i) z
  old : o = o.take (i + 1) ++ List.replicate (o.length - 1 - i) c
theorem Inc.len {o : List UInt8} {z c : UInt8} {i : Nat} {cur : List UInt8} (h : Inc o z c i cur) : cur.length = o.length := by
  rw [h.cur, List.length_append, List.length_take, List.length_replicate]
  have := h.lt
  omega
theorem Inc.at {o : List UInt8} {z c : UInt8} {i : Nat} {cur : List UInt8} (h : Inc o z c i cur) : cur.getD i 0 = o.getD i 0 := by
  rw [h.cur, take_mid o i h.lt, List.append_assoc, List.getD_eq_getElem?_getD, List.getElem?_append_right (by rw [List.length_take]; omega)]
  have hl := h.lt
  have : i - (o.take i).length = 0 := by rw [List.length_take]; omega
  rw [this]
  rfl
theorem Inc.set {o : List UInt8} {z c : UInt8} {i : Nat} {cur : List UInt8} (h : Inc o z c i cur) (y : UInt8) :
    cur.set i y = o.take i ++ y :: List.replicate (o.length - 1 - i) z := by
  have hl := h.lt
  have e : (o.take i).length = i := by rw [List.length_take]; omega
  rw [h.cur, take_mid o i hl, List.append_assoc, List.singleton_append]
  have := set_mid (o.take i) (List.replicate (o.length - 1 - i) z) (o.getD i 0) y
  rw [e] at this
  exact this
theorem Inc.start (o : List UInt8) (z c : UInt8) (h : 0 < o.length) : Inc o z c (o.length - 1) o := by
  refine ⟨by omega, ?_, ?_⟩
  all_goals
    rw [show o.length - 1 + 1 = o.length by omega, List.take_length, Nat.sub_self]
    simp
theorem Inc.next {o : List UInt8} {z c : UInt8} {i : Nat} {cur : List UInt8} (h : Inc o z c (i + 1) cur) (hc : o.getD (i + 1) 0 = c) : Inc o z c i (cur.set (i + 1) z) := by
  have hl := h.lt
  refine ⟨by omega, ?_, ?_⟩
  · rw [h.set, show o.length - 1 - i = o.length - 1 - (i + 1) + 1 by omega, List.replicate_succ]
  · have := h.old
    rw [take_mid o (i + 1) hl, hc, List.append_assoc, List.singleton_append, ← List.replicate_succ] at this
    rw [show o.length - 1 - i = o.length - 1 - (i + 1) + 1 by omega]
    exact this
/-- More by one: behind the place noughts, where 255 was. -/
theorem Inc.up {o : List UInt8} {i : Nat} {cur : List UInt8} (h : Inc o 0 255 i cur) (y : UInt8) (hy : y.toNat = (o.getD i 0).toNat + 1) : val (cur.set i y) = val o + 1 := by
  have h1 := h.old
  rw [take_mid o i h.lt, List.append_assoc, List.singleton_append] at h1
  generalize o.length - 1 - i = k at h1
  have hs := h.set y
  generalize ho : o.length - 1 - i = k' at hs
  obtain rfl : k' = k := by
    have := congrArg List.length h1
    rw [List.length_append, List.length_cons, List.length_replicate, List.length_take] at this
    have := h.lt
    omega
  rw [hs]
  have h2 := val_replicate255 k'
  have h3 : val o = val (o.take i ++ o.getD i 0 :: List.replicate k' 255) := by rw [← h1]
  rw [h3, val_append, val_append, val_cons, val_cons, List.length_cons, List.length_cons, List.length_replicate, List.length_replicate, val_replicate0, hy, Nat.add_mul]
  omega
/-- Less by one: behind the place 255, where noughts were. -/
theorem Inc.down {o : List UInt8} {i : Nat} {cur : List UInt8} (h : Inc o 255 0 i cur) (y : UInt8) (hy : y.toNat + 1 = (o.getD i 0).toNat) : val (cur.set i y) + 1 = val o := by
  have h1 := h.old
  rw [take_mid o i h.lt, List.append_assoc, List.singleton_append] at h1
  generalize o.length - 1 - i = k at h1
  have hs := h.set y
  generalize ho : o.length - 1 - i = k' at hs
  obtain rfl : k' = k := by
    have := congrArg List.length h1
    rw [List.length_append, List.length_cons, List.length_replicate, List.length_take] at this
    have := h.lt
    omega
  rw [hs]
  have h2 := val_replicate255 k'
  have h3 : val o = val (o.take i ++ o.getD i 0 :: List.replicate k' 0) := by rw [← h1]
  rw [h3, val_append, val_append, val_cons, val_cons, List.length_cons, List.length_cons, List.length_replicate, List.length_replicate, val_replicate0, ← hy, Nat.add_mul]
  omega

end Go.Proofs.Ytnehofekgnbelaa

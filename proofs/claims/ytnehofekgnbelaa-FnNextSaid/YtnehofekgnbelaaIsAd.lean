/-
  The reference: read, IsAddress, Compare.
-/
import Derived.Test.YtnehofekgnbelaaRead4
namespace Go.Proofs.Ytnehofekgnbelaa
open Go.RowKit
set_option linter.unusedVariables false
set_option maxRecDepth 100000
set_option maxHeartbeats 1000000

theorem read_any (s : ByteArray) (w : World) (hs : s.size ≤ 2147483647) :
    Calls Try.prog 24 #[.string s] w (ReadPost w (bl s)) := by
  cases h : isSix (bl s) with
  | true => exact read_six s w h hs
  | false => exact read_four s w h hs

def isAddr (l : List UInt8) : Bool := (readL l).isSome
def BoolPost (w : World) (b : Bool) (e : Ending) (w' : World) : Prop := e = .returned (.bool b) ∧ Below w.heap.size w w'

theorem isAddress_any (s : ByteArray) (w : World) (hs : s.size ≤ 2147483647) :
    Calls Try.prog 8 #[.string s] w (BoolPost w (isAddr (bl s))) := by
  go_enter Try.func8, Try.ntmps8
  go_wp2_with fail
  refine (read_any s _ hs).mono ?_
  rintro e w' ⟨a, ok, rfl, ha, hn, hb⟩
  have HA := Lib.hid ha
  have HB := Lib.hid hb
  clear ha hb
  unfold adv
  go_wp2_with fail
  go_ret
  refine ⟨ret_bool ?_, HB.out.alloc HB.out.size _⟩
  have h := HA.out
  unfold isAddr
  cases ok with
  | true => rw [if_pos rfl] at h; rw [h]; rfl
  | false => rw [if_neg (by decide)] at h; rw [h]; rfl

theorem read_is {l : List UInt8} {a a' : Ad} {ok : Bool} (h : readL l = some a) (h' : if ok = true then readL l = some a' else readL l = none) : a' = a ∧ ok = true := by
  cases ok with
  | true => rw [if_pos rfl, h] at h'; exact ⟨(Option.some.inj h').symm, rfl⟩
  | false => rw [if_neg (by decide), h] at h'; cases h'

theorem compare_any (s t : ByteArray) (a b : Ad) (w : World) (hs : s.size ≤ 2147483647) (ht : t.size ≤ 2147483647) (ha : readL (bl s) = some a) (hb : readL (bl t) = some b) :
    Calls Try.prog 10 #[.string s, .string t] w (fun e w' => e = .returned (.int .i64 (a.cmp b)) ∧ Below w.heap.size w w') := by
  have HA := Lib.hid ha
  have HB := Lib.hid hb
  clear ha hb
  go_enter Try.func10, Try.ntmps10
  go_wp2_with fail
  refine (read_any s _ hs).mono ?_
  rintro e w1 ⟨a', ok, rfl, ha, hn, hb⟩
  obtain ⟨rfl, rfl⟩ := read_is HA.out ha
  have HB1 := Lib.hid hb
  clear ha hb
  unfold adv
  go_wp2_with fail
  refine (read_any t _ ht).mono ?_
  rintro e w2 ⟨b', ok, rfl, hb, hm, hb2⟩
  obtain ⟨rfl, rfl⟩ := read_is HB.out hb
  have c0 := (hb2.cell (p := ⟨w1.heap.size, 0, none⟩) (by simp)).trans (World.cell?_alloc_mark w1 #[.bool a'.six, .int .u32 a'.n] 41 (0, 0) 0)
  have c1 := (hb2.cell (p := ⟨w1.heap.size, 1, none⟩) (by simp)).trans (World.cell?_alloc_mark w1 #[.bool a'.six, .int .u32 a'.n] 41 (0, 0) 1)
  have c0 : w2.cell? ⟨w1.heap.size, 0, none⟩ = some (.bool a'.six) := c0
  have c1 : w2.cell? ⟨w1.heap.size, 1, none⟩ = some (.int .u32 a'.n) := c1
  have hlt : w1.heap.size < w2.heap.size := by have := hb2.size; simp at this; omega
  have HB2 := Lib.hid hb2
  clear hb hb2
  have hbelow : ∀ o o' : Obj, Below w.heap.size w (w2.alloc o') := fun o o' => by
    have h1 := HB1.out.alloc HB1.out.size (.cells #[.bool a'.six, .int .u32 a'.n] 41 (0, 0))
    have h2 := below_tr h1 HB2.out
    exact h2.alloc h2.size _
  have HW := Lib.hid hbelow
  clear hbelow
  unfold adv
  obtain ⟨s1, n1⟩ := a'
  obtain ⟨s2, n2⟩ := b'
  simp only at c0 c1 hn hm
  simp only
  cases s1 <;> cases s2
  case false.true =>
    go_wp2_with fail
    go_ret
    exact ⟨rfl, HW.out (.cells #[] 0) _⟩
  case true.false =>
    go_wp2_with fail
    go_ret
    exact ⟨rfl, HW.out (.cells #[] 0) _⟩
  all_goals
    by_cases hlt1 : n1 < n2
    · have t1 : decide ((n1 : Int) < n2) = true := decide_eq_true (by omega)
      have e : cmpN n1 n2 = -1 := by unfold cmpN; rw [if_pos hlt1]
      have HE := Lib.hid e
      clear e
      go_wp2_with fail
      go_ret
      exact ⟨ret_int (by simp [Ad.cmp, HE.out]), HW.out (.cells #[] 0) _⟩
    · have t1 : decide ((n1 : Int) < n2) = false := decide_eq_false (by omega)
      by_cases hlt2 : n2 < n1
      · have t2 : decide ((n2 : Int) < n1) = true := decide_eq_true (by omega)
        have e : cmpN n1 n2 = 1 := by unfold cmpN; rw [if_neg hlt1, if_pos hlt2]
        have HE := Lib.hid e
        clear e
        go_wp2_with fail
        go_ret
        exact ⟨ret_int (by simp [Ad.cmp, HE.out]), HW.out (.cells #[] 0) _⟩
      · have t2 : decide ((n2 : Int) < n1) = false := decide_eq_false (by omega)
        have e : cmpN n1 n2 = 0 := by unfold cmpN; rw [if_neg hlt1, if_neg hlt2]
        have HE := Lib.hid e
        clear e
        go_wp2_with fail
        go_ret
        exact ⟨ret_int (by simp [Ad.cmp, HE.out]), HW.out (.cells #[] 0) _⟩

end Go.Proofs.Ytnehofekgnbelaa

/-
  impl.Next's closure: so many steps from an address on.
-/
import Derived.Test.YtnehofekgnbelaaNextIP
import Derived.Test.YtnehofekgnbelaaStr
import Derived.Test.YtnehofekgnbelaaAddr6
namespace Go.Proofs.Ytnehofekgnbelaa
open Go.RowKit
set_option linter.unusedVariables false
set_option maxRecDepth 100000
set_option maxHeartbeats 1000000

theorem SlAt.set {w : World} {v : Value} {xs : List Value} (h : SlAt w v xs) {p : Addr} {z : Value} (hp : ∀ u ∈ xs, w.cell? p ≠ some u) : SlAt (w.setCell p z) v xs := by
  obtain ⟨ao, cap, rfl, hl, hm, hn, hc⟩ := h
  refine ⟨ao, cap, rfl, hl, hm, hn, fun a ha j u hu => ?_⟩
  have hcell := hc a ha j u hu
  have hne : a.add j ≠ p := fun e => hp u (List.mem_of_getElem? hu) (by rw [← e]; exact hcell)
  rw [World.cell?_setCell_other _ _ _ _ (by first | exact hne | exact hne.symm)]
  exact hcell
/-- A cell that holds no byte may be stored into: an address stays. -/
theorem IPAt.set {w : World} {v : Value} {bs : List UInt8} (h : IPAt w v bs) {p : Addr} {z : Value} (hp : ∀ x : UInt8, w.cell? p ≠ some (u8v x)) : IPAt (w.setCell p z) v bs :=
  ⟨h.1.set fun u hu => by
    simp only [ipv, List.mem_map] at hu
    obtain ⟨x, _, rfl⟩ := hu
    exact hp x, h.2⟩
theorem AdAt.set {w : World} {v : Value} {a : Ad} (h : AdAt w v a) {p : Addr} {z : Value} (hp : ∀ x : UInt8, w.cell? p ≠ some (u8v x)) : AdAt (w.setCell p z) v a :=
  h.elim (fun h => .inl (IPAt.set h hp)) (fun h => .inr (IPAt.set h hp))

/-- The world within the closure: the counter's box holds m, all else of old is as it was. -/
structure StepRel (w : World) (B : Nat) (m : Int) (wr : World) : Prop where
  row : wr.heap[B]? = some (.cells #[.int .i64 m] 3 (0, 0))
  rest : w.grownBy wr (some B)
theorem StepRel.on {w w1 w2 : World} {B : Nat} {m : Int} (h : StepRel w B m w1) (hb : Below w1.heap.size w1 w2) : StepRel w B m w2 :=
  ⟨row_on hb h.row, h.rest.andThen (row' := none) ⟨hb.os, hb.tape, hb.output, hb.size, fun k hk _ => hb.block k hk⟩ (fun j hj => by cases hj)⟩
theorem StepRel.store {w w1 : World} {B : Nat} {m : Int} (h : StepRel w B m w1) (m' : Int) : StepRel w B m' (w1.setCell ⟨B, 0, none⟩ (.int .i64 m')) := by
  refine ⟨heap_setCell_same w1 B 0 _ _ _ h.row, h.rest.os, h.rest.tape, h.rest.output, ?_, fun k hk hne => ?_⟩
  · have := h.rest.size; simp; exact this
  · rw [Below.heap_setCell _ _ _ _ (by intro e; exact hne (by rw [e]))]
    exact h.rest.block k hk hne
theorem StepRel.cell {w w1 : World} {B : Nat} {m : Int} (h : StepRel w B m w1) : w1.cell? ⟨B, 0, none⟩ = some (.int .i64 m) := cell_of_row w1 B 0 _ _ _ h.row
theorem StepRel.free {w w1 : World} {B : Nat} {m : Int} (h : StepRel w B m w1) : w1.frozen? ⟨B, 0, none⟩ = false := frozen_of_row w1 B 0 _ _ h.row
theorem StepRel.other {w w1 : World} {B k : Nat} {m : Int} {o : Obj} (h : StepRel w B m w1) (hk : w.heap[k]? = some o) (hne : k ≠ B) : w1.heap[k]? = some o := by
  rw [h.rest.block k (Array.getElem?_eq_some_iff.1 hk).1 (fun e => hne (by simpa using e))]
  exact hk

def Next1 (w : World) (B C : Nat) (l : List UInt8) (w' : World) : Prop := ∃ w1 t, w.grownBy w1 (some B) ∧ bl t = l ∧ w' = w1.setCell ⟨C, 0, none⟩ (.string t)

/-- The address so many steps from another one on. -/
def Ad.plus (a : Ad) (k : Int) : Ad := ⟨a.six, ((a.n : Int) + k).toNat⟩
def Ad.most (a : Ad) : Int := if a.six then 65535 else 4294967295
theorem plus_ok {a : Ad} {k : Int} (h0 : 0 ≤ (a.n : Int) + k) (h1 : (a.n : Int) + k ≤ a.most) : (a.plus k).ok := by
  unfold Ad.ok Ad.plus
  unfold Ad.most at h1
  simp only
  split <;> rename_i hs <;> simp [hs] at h1 <;> omega
theorem plus_zero (a : Ad) : a.plus 0 = a := by
  unfold Ad.plus
  rw [Int.add_zero, Int.toNat_natCast]
theorem plus_up (a : Ad) (k : Int) (h0 : 0 ≤ (a.n : Int) + k) : (a.plus k).up = a.plus (k + 1) := by
  unfold Ad.plus Ad.up
  simp only [Ad.mk.injEq, true_and]
  omega
theorem plus_down (a : Ad) (k : Int) (h0 : 0 < (a.n : Int) + k) : (a.plus k).down = a.plus (k - 1) := by
  unfold Ad.plus Ad.down
  simp only [Ad.mk.injEq, true_and]
  omega
theorem plus_n (a : Ad) (k : Int) (h0 : 0 ≤ (a.n : Int) + k) : ((a.plus k).n : Int) = (a.n : Int) + k := by
  unfold Ad.plus
  simp only
  omega

theorem next1_any (A B C : Nat) (s : ByteArray) (a : Ad) (k : Int) (w : World) (hA : w.heap[A]? = some (.cells #[.string s] 9 (0, 0))) (hB : w.heap[B]? = some (.cells #[.int .i64 k] 3 (0, 0)))
    (hC : w.heap[C]? = some (.cells #[.string ⟨#[]⟩] 9 (0, 0))) (hAB : A ≠ B) (hCB : C ≠ B) (ha : readL (bl s) = some a) (hs : s.size ≤ 1000) (k0 : -300 ≤ k) (k1 : k ≤ 300) (h0 : 0 ≤ (a.n : Int) + k) (h1 : (a.n : Int) + k ≤ a.most) :
    Calls Try.prog 31 #[.pointer (some ⟨A, 0, none⟩), .pointer (some ⟨B, 0, none⟩), .pointer (some ⟨C, 0, none⟩)] w (fun e w' => e = .returned (.tuple #[]) ∧ Next1 w B C (a.plus k).text w') := by
  have hok := readL_ok ha
  have hmost : (a.n : Int) ≤ a.most := by
    unfold Ad.ok at hok
    unfold Ad.most
    split <;> rename_i hsx <;> simp [hsx] at hok <;> omega
  have HO := Lib.hid (fun w => addressOf_any s a w ha hs)
  have HR0 := Lib.hid (show StepRel w B k w from ⟨hB, World.grownBy.refl _ _⟩)
  have HC := Lib.hid hC
  have HCB := Lib.hid hCB
  have HOK := Lib.hid (fun j (x0 : 0 ≤ (a.n : Int) + j) (x1 : (a.n : Int) + j ≤ a.most) => plus_ok (a := a) (k := j) x0 x1)
  have cA : w.cell? ⟨A, 0, none⟩ = some (.string s) := cell_of_row w A 0 _ _ _ hA
  generalize a.most = M at h1 hmost HOK
  clear hA hB hC hok ha hCB
  go_enter Try.func31, Try.ntmps31
  go_wp2_with fail
  refine (HO.out _).mono ?_
  rintro e w1 ⟨v1, rfl, hv1, hb1⟩
  have HV1 := Lib.hid (show AdAt w1 v1 (a.plus 0) by rw [plus_zero]; exact .inl hv1)
  have HR1 := Lib.hid (HR0.out.on hb1)
  clear hv1 hb1 cA
  by_cases hpos : 0 ≤ k
  · go_wp2_with fail
    go_loopw [3] (fun v wr => ∃ m : Int, 0 ≤ m ∧ m ≤ k ∧ wr.cell? ⟨B, 0, none⟩ = some (.int .i64 m) ∧ Hid (AdAt wr v (a.plus (k - m)) ∧ StepRel w B m wr)) (fun _ wr => match wr.cell? ⟨B, 0, none⟩ with | some (.int _ m) => m.toNat | _ => 0)
    case atStart => exact ⟨k, hpos, Int.le_refl _, HR1.out.cell, by rw [Int.sub_self]; exact HV1.out, HR1.out⟩
    case round =>
      obtain ⟨m, m0, mk, cB, hr⟩ := hrel
      have zB := hr.out.2.free
      by_cases hm : 0 < m
      · have t1 : decide ((0 : Int) < m) = true := decide_eq_true hm
        go_wp2_with fail
        refine (NextIP_any _ (a.plus (k - m)) _ hr.out.1 (HOK.out _ (by omega) (by omega))  (by rw [plus_up a _ (by omega)]; exact HOK.out _ (by omega) (by omega))).mono ?_
        rintro e w2 ⟨v2, rfl, hv2, hb2⟩
        rw [plus_up a _ (by omega), show k - m + 1 = k - (m - 1) by omega] at hv2
        have HV2 := Lib.hid (show AdAt w2 v2 (a.plus (k - (m - 1))) from .inr hv2)
        have HR2 := Lib.hid (hr.out.2.on hb2)
        have cB2 := HR2.out.cell
        have zB2 := HR2.out.free
        have HR3 := Lib.hid (HR2.out.store (m - 1))
        have HV3 := Lib.hid (HV2.out.set (p := ⟨B, 0, none⟩) (z := .int .i64 (m - 1)) (by intro x; rw [HR2.out.cell]; simp [u8v]))
        have HC3 := Lib.hid HR3.out.cell
        have hmw : m.toNat + (-m).toNat ≤ 300 := by omega
        have HCW := Lib.hid cB
        clear hv2 hb2 zB cB
        go_wp2_with fail
        go_roundw
        case rel => exact ⟨m - 1, by omega, by omega, HC3.out, HV3.out, HR3.out⟩
        case measure => rw [HC3.out, HCW.out]; simp; omega
      · obtain rfl : m = 0 := by omega
        go_wp2_with fail
        refine wp_loop_rounds 1 ?_
        rw [rounds_succ]
        have cC := cell_of_row _ C 0 _ _ _ (hr.out.2.other HC.out HCB.out)
        have zC := frozen_of_row _ C 0 _ _ (hr.out.2.other HC.out HCB.out)
        go_wp2_with fail
        refine (ipString_any _ (a.plus k) _ (by have := hr.out.1; simpa using this) (HOK.out k h0 h1)).mono ?_
        rintro e w5 ⟨t, rfl, ht, hb5⟩
        have HR5 := Lib.hid (hr.out.2.on hb5)
        have HT := Lib.hid ht
        have cC5 := cell_of_row _ C 0 _ _ _ (HR5.out.other HC.out HCB.out)
        have zC5 := frozen_of_row _ C 0 _ _ (HR5.out.other HC.out HCB.out)
        clear ht hb5 cC zC
        go_wp2_with fail
        go_end0
        exact ⟨rfl, w5, t, HR5.out.rest, HT.out, rfl⟩
  · have t0 : decide ((0 : Int) < k) = false := decide_eq_false (by omega)
    have cB1 := HR1.out.cell
    go_wp2_with fail
    refine wp_loop_rounds 1 ?_
    rw [rounds_succ]
    go_wp2_with fail
    clear cB1 t0
    go_loopw [3] (fun v wr => ∃ m : Int, m ≤ 0 ∧ k ≤ m ∧ wr.cell? ⟨B, 0, none⟩ = some (.int .i64 m) ∧ Hid (AdAt wr v (a.plus (k - m)) ∧ StepRel w B m wr)) (fun _ wr => match wr.cell? ⟨B, 0, none⟩ with | some (.int _ m) => (-m).toNat | _ => 0)
    case atStart => exact ⟨k, (by omega), Int.le_refl _, HR1.out.cell, by rw [Int.sub_self]; exact HV1.out, HR1.out⟩
    case round =>
      obtain ⟨m, m0, mk, cB, hr⟩ := hrel
      have zB := hr.out.2.free
      by_cases hm : m < 0
      · have t1 : decide (m < (0 : Int)) = true := decide_eq_true hm
        go_wp2_with fail
        refine (PrevIP_any _ (a.plus (k - m)) _ hr.out.1 (HOK.out _ (by omega) (by omega)) (by have := plus_n a (k - m) (by omega); omega) (by rw [plus_down a _ (by omega)]; exact HOK.out _ (by omega) (by omega))).mono ?_
        rintro e w2 ⟨v2, rfl, hv2, hb2⟩
        rw [plus_down a _ (by omega), show k - m - 1 = k - (m + 1) by omega] at hv2
        have HV2 := Lib.hid (show AdAt w2 v2 (a.plus (k - (m + 1))) from .inr hv2)
        have HR2 := Lib.hid (hr.out.2.on hb2)
        have cB2 := HR2.out.cell
        have zB2 := HR2.out.free
        have HR3 := Lib.hid (HR2.out.store (m + 1))
        have HV3 := Lib.hid (HV2.out.set (p := ⟨B, 0, none⟩) (z := .int .i64 (m + 1)) (by intro x; rw [HR2.out.cell]; simp [u8v]))
        have HC3 := Lib.hid HR3.out.cell
        have hmw : m.toNat + (-m).toNat ≤ 300 := by omega
        have HCW := Lib.hid cB
        clear hv2 hb2 zB cB
        go_wp2_with fail
        go_roundw
        case rel => exact ⟨m + 1, by omega, by omega, HC3.out, HV3.out, HR3.out⟩
        case measure => rw [HC3.out, HCW.out]; simp; omega
      · obtain rfl : m = 0 := by omega
        have cC := cell_of_row _ C 0 _ _ _ (hr.out.2.other HC.out HCB.out)
        have zC := frozen_of_row _ C 0 _ _ (hr.out.2.other HC.out HCB.out)
        go_wp2_with fail
        refine (ipString_any _ (a.plus k) _ (by have := hr.out.1; simpa using this) (HOK.out k h0 h1)).mono ?_
        rintro e w5 ⟨t, rfl, ht, hb5⟩
        have HR5 := Lib.hid (hr.out.2.on hb5)
        have HT := Lib.hid ht
        have cC5 := cell_of_row _ C 0 _ _ _ (HR5.out.other HC.out HCB.out)
        have zC5 := frozen_of_row _ C 0 _ _ (HR5.out.other HC.out HCB.out)
        clear ht hb5 cC zC
        go_wp2_with fail
        go_end0
        exact ⟨rfl, w5, t, HR5.out.rest, HT.out, rfl⟩

end Go.Proofs.Ytnehofekgnbelaa

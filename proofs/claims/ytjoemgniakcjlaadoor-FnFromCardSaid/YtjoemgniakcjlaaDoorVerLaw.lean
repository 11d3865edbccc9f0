/-
  impl.Version and the law FnVersion.
-/
import Derived.Test.YtjoemgniakcjlaaDoorParse
namespace Go.Proofs.YtjoemgniakcjlaaDoor
open Go.RowKit
set_option linter.unusedVariables false

def ImplVerPost (a b c : Int) (ok : Bool) (w : World) (e : Ending) (w' : World) : Prop :=
  e = .returned (.tuple #[.int .i64 a, .int .i64 b, .int .i64 c, .bool ok]) ∧ Below w.heap.size w w'

set_option maxHeartbeats 1000000 in
theorem implver_ok (s : ByteArray) (Q : List Int) (w : World) (hv : verL (bl s) = some Q) :
    Calls Tryd.prog 7 #[.string s] w (ImplVerPost (Q.getD 0 0) (Q.getD 1 0) (Q.getD 2 0) true w) := by
  have h20 := verL_size hv
  rw [bl_length] at h20
  have hl1 : longIn [s] = false := by simp [longIn]; omega
  have HL := Lib.hid hl1
  have HV := Lib.hid hv
  clear hl1 hv
  go_enter Tryd.func7, Tryd.ntmps7
  go_wp2_with fail
  refine (short_yes _ [s] _ (slat_one _ _) HL.out).mono ?_
  rintro e w' ⟨rfl, rfl⟩
  go_wp2_with fail
  refine (parse_ok s Q _ HV.out).mono ?_
  rintro e w1 ⟨rfl, hb⟩
  go_wp2_with fail
  refine bodyPost_ret (v := .tuple #[.int .i64 (Q.getD 0 0), .int .i64 (Q.getD 1 0), .int .i64 (Q.getD 2 0), .bool true]) (by simp [results, Tryd.results7, go_sem]) rfl ⟨rfl, ?_⟩
  exact below_tr ((Below.refl _ _).alloc (Nat.le_refl _) _) hb

set_option maxHeartbeats 1000000 in
theorem implver_four (s : ByteArray) (w : World) (h64 : s.size ≤ 64) (hv : 4 ≤ (splitL (bl s)).length) :
    Calls Tryd.prog 7 #[.string s] w (ImplVerPost 0 0 0 false w) := by
  have hl1 : longIn [s] = false := by simp [longIn]; omega
  have HL := Lib.hid hl1
  have HV := Lib.hid hv
  clear hl1 hv
  go_enter Tryd.func7, Tryd.ntmps7
  go_wp2_with fail
  refine (short_yes _ [s] _ (slat_one _ _) HL.out).mono ?_
  rintro e w' ⟨rfl, rfl⟩
  go_wp2_with fail
  refine (parse_four s _ (by omega) HV.out).mono ?_
  rintro e w1 ⟨b, rfl, hb⟩
  go_wp2_with fail
  refine bodyPost_ret (v := .tuple #[.int .i64 0, .int .i64 0, .int .i64 0, .bool false]) (by simp [results, Tryd.results7, go_sem]) rfl ⟨rfl, ?_⟩
  exact below_tr ((Below.refl _ _).alloc (Nat.le_refl _) _) hb

def LawPost (w : World) (e : Ending) (w' : World) : Prop := e = .returned (.bool true) ∧ Below w.heap.size w w'

def four : ByteArray := ⟨#[49, 46, 50, 46, 51, 46, 52]⟩
theorem four_parts : 4 ≤ (splitL (bl four)).length := by decide

set_option maxHeartbeats 1000000 in
set_option maxRecDepth 100000 in
theorem lawVersion (s : ByteArray) (w : World) : Calls Tryd.prog 3 #[.string s] w (LawPost w) := by
  by_cases hbig : 2147483647 < (s.size : Int)
  · go_enter Tryd.func3, Tryd.ntmps3
    go_wp2_with fail
    go_ret
    exact ⟨rfl, Below.refl _ _⟩
  · have hs : s.size ≤ 9223372036854775807 := by omega
    cases hv : verL (bl s) with
    | none =>
      have HV := Lib.hid hv
      clear hv
      go_enter Tryd.func3, Tryd.ntmps3
      go_wp2_with fail
      refine (version_any s _ hs).mono ?_
      rintro e w1 ⟨rfl, hb⟩
      simp only [HV.out, Option.getD_none, Option.isSome_none, v3]
      go_wp2_with fail
      go_ret
      refine ⟨rfl, below_tr hb ?_⟩
      go_grown
    | some Q =>
      have HV := Lib.hid hv
      clear hv
      go_enter Tryd.func3, Tryd.ntmps3
      go_wp2_with fail
      refine (version_any s _ hs).mono ?_
      rintro e w1 ⟨rfl, hb⟩
      simp only [HV.out, Option.getD_some, Option.isSome_some, v3]
      go_wp2_with fail
      refine (implver_ok s Q _ HV.out).mono ?_
      rintro e w2 ⟨rfl, hb2⟩
      go_wp2_with fail
      refine (implver_four four _ (by decide) four_parts).mono ?_
      rintro e w3 ⟨rfl, hb3⟩
      have hlt : w1.heap.size < w2.heap.size := by have := hb2.size; simp at this; omega
      have k0 : w3.cell? ⟨w1.heap.size, 0, none⟩ = some (.int .i64 (Q[0]?.getD 0)) := (hb3.cell (p := ⟨w1.heap.size, 0, none⟩) hlt).trans ((hb2.cell (p := ⟨w1.heap.size, 0, none⟩) (by simp)).trans (by simp [go_sem]))
      have k1 : w3.cell? ⟨w1.heap.size, 1, none⟩ = some (.int .i64 (Q[1]?.getD 0)) := (hb3.cell (p := ⟨w1.heap.size, 1, none⟩) hlt).trans ((hb2.cell (p := ⟨w1.heap.size, 1, none⟩) (by simp)).trans (by simp [go_sem]))
      have k2 : w3.cell? ⟨w1.heap.size, 2, none⟩ = some (.int .i64 (Q[2]?.getD 0)) := (hb3.cell (p := ⟨w1.heap.size, 2, none⟩) hlt).trans ((hb2.cell (p := ⟨w1.heap.size, 2, none⟩) (by simp)).trans (by simp [go_sem]))
      have hfin : Below w.heap.size w w3 := below_tr (below_tr hb (below_tr ((Below.refl _ _).alloc (Nat.le_refl _) _) hb2)) hb3
      have HF := Lib.hid hfin
      clear hb hb2 hb3 hlt hfin
      go_wp2_with fail
      go_ret
      exact ⟨rfl, HF.out⟩

end Go.Proofs.YtjoemgniakcjlaaDoor

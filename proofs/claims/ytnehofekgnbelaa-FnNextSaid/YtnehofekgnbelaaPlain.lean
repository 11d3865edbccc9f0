/-
  impl.plain, impl.addressOf of four numbers.
-/
import Derived.Test.YtnehofekgnbelaaPIP3
import Derived.Laws.Bits64b
namespace Go.Proofs.Ytnehofekgnbelaa
open Go.RowKit
set_option linter.unusedVariables false
set_option maxRecDepth 100000
set_option maxHeartbeats 1000000

theorem plain_four (v : Value) (n : Nat) (w : World) (h : LongAt w v ⟨false, n⟩) :
    Calls Try.prog 48 #[v] w (fun e w' => e = .returned (.bool true) ∧ w = w') := by
  have hnil := fun w a n c => run_neq_slice_nil_any (P := Try.prog) w 46 5 a n c 0 0 Try.underlying46
  have ht := to4_any v ⟨false, n⟩ w (.inl h)
  have HT := Lib.hid ht
  clear ht h
  go_enter Try.func48, Try.ntmps48
  go_wp2_with fail
  refine HT.out.mono ?_
  rintro e w' ⟨v', rfl, hv, rfl⟩
  have hv2 : BriefAt w v' ⟨false, n⟩ := hv
  obtain ⟨b, off, cap, rfl, _⟩ := BriefAt.out hv2
  clear hv hv2
  go_wp2_with fail
  go_ret
  exact ⟨rfl, rfl⟩

theorem quad_lt (k : Nat) : ∀ (l : List UInt8) (n N : Nat), quadN k l n = some N → N < 4294967296 := by
  induction k with
  | zero =>
    intro l n N h
    have := (quad_ok h).2.2
    rw [if_pos rfl] at this
    rw [← Option.some.inj this]
    exact Nat.mod_lt _ (by decide)
  | succ k ih =>
    intro l n N h
    have := (quad_ok h).2.2
    rw [if_neg (by omega)] at this
    exact ih _ _ _ this

theorem parseIP_four (s : ByteArray) (N : Nat) (w : World) (hq : quadN 3 (bl s) 0 = some N) (hs : s.size ≤ 1000) :
    Calls Try.prog 47 #[.string s] w (IPPost w (Ad.long ⟨false, N⟩)) :=
  ParseIP_any s 0 (281470681743360 + N) false _ w (by decide) (by have := quad_lt 3 _ _ _ hq; omega) (Ad.long_length _) (long_four N (quad_lt 3 _ _ _ hq)) (fun w => parseAddr_four s N w hq hs)

theorem addressOf_four (s : ByteArray) (N : Nat) (w : World) (hq : quadN 3 (bl s) 0 = some N) (hs : s.size ≤ 1000) :
    Calls Try.prog 26 #[.string s] w (IPPost w (Ad.long ⟨false, N⟩)) := by
  have hnil := fun w a n c => Lib.run_eql_slice_nil (P := Try.prog) w 46 5 a n c 0 0 Try.underlying46
  have HP := Lib.hid (parseIP_four s N w hq hs)
  clear hq
  go_enter Try.func26, Try.ntmps26
  go_wp2_with fail
  refine HP.out.mono ?_
  rintro e w' ⟨v, rfl, hv, hb⟩
  have HV := Lib.hid hv
  have HB := Lib.hid hb
  have ho := IPAt.out hv
  rw [Ad.long_length] at ho
  obtain ⟨b, off, cap, rfl, _⟩ := ho
  clear hv hb
  go_wp2_with fail
  refine (plain_four _ N _ HV.out).mono ?_
  rintro e w2 ⟨rfl, rfl⟩
  go_wp2_with fail
  go_ret
  exact ⟨_, rfl, HV.out, HB.out⟩

end Go.Proofs.Ytnehofekgnbelaa

/-
  For every two texts the call laws.FnCompare(a, b) returns true, and both read afterwards as before. No condition of ours: whatever the arguments are (the statement's own guards let the call return true early).
-/
import Derived.Test.YtnehofekgnbelaaCompare
import Derived.Test.YtnehofekgnbelaaLaw
namespace Go.Proofs.Ytnehofekgnbelaa.fnCompare
open Go.ChangeShapes Go.WideShapes Go.ChangeAt Go.RowKit
open Go.WideMaps Go.WideElems
open Go.ChangeMaps (open_string)
set_option linter.unusedVariables false

theorem own : ownKnob Try.prog.godebug = none := by kernel_rfl
theorem laidOut : laidOutB Try.prog = true := by kernel_rfl
theorem readStr : Try.prog.readableRec 9 = true := by kernel_rfl
theorem inStr : 9 < Try.prog.types.size := of_decide_eq_true (by kernel_rfl)

set_option maxRecDepth 100000 in
theorem contract (H : Type) (enc : TypeId × Value → H) (W : World) (base : Nat) (args : Array Value) (ds gs : List (DataW H)) (before : List MemPlace)
    (hval : ∀ (j : Nat) t v, Try.f3.params[j]? = some t → args[j]? = some v → Value.okWide Try.prog W .any base t v)
    (hW : DataW.Whole enc Try.prog Try.f3.params.toList Rows.fnCompareSpec.vars false W args.toList ds gs before) :
    Calls Try.prog 3 args W fun e W' => ∃ v, e = .returned v ∧ Rows.fnCompareSpec.post enc Try.prog Try.f3 false true false false W args v W' := by
  have hW' := hW
  obtain ⟨p, q, hA0, hV, hbef, hfz, hnd⟩ := hW
  have hA : DataW.TrodAll enc Try.prog W 0 (fun _ => true) true Try.f3.params.toList args.toList ds p := hA0
  rw [Try.params3] at hA hval
  obtain ⟨v0, v1, d0, d1, p0, p1, rfl, rfl, rfl, h0, h1⟩ := trodAll_two hA
  obtain ⟨rfl, rfl⟩ := trodVars_none hV
  obtain ⟨s, rfl, rfl, rfl, hs⟩ := open_string Try.underlying9 (hval 0 9 v0 (by rfl) (by rfl)) h0
  obtain ⟨t, rfl, rfl, rfl, ht⟩ := open_string Try.underlying9 (hval 1 9 v1 (by rfl) (by rfl)) h1
  refine (lawCompare s t W hs ht).mono fun e W' ⟨he, hb⟩ => ?_
  refine ⟨_, he, law_post (tb := 4) laidOut (fun t ht => ?_) rfl hW' hb rfl rfl rfl rfl Try.underlying4⟩
  rw [Try.params3] at ht
  simp only [List.mem_cons, List.not_mem_nil, or_false, or_self] at ht
  subst ht
  exact ⟨readStr, inStr⟩

set_option maxRecDepth 100000 in
theorem lifted (os : Os) (started : os.Started) (H : Type) (enc : TypeId × Value → H) :
    ReturnsInHanded {} Try.checked os 3 .any (Rows.fnCompareSpec.pre6 enc Try.prog Try.f3 Rows.fnCompareRow.domain false) (Rows.fnCompareSpec.post enc Try.prog Try.f3 false true false false) := by
  refine returnsInHanded_of_change (C := Try.checked) own started (by kernel_rfl) Try.func3
    (ChangeSpec.witness6 (enc := enc) (C := Try.checked) false ⟨#[], #[.string ByteArray.empty, .string ByteArray.empty], []⟩ 8 (by kernel_rfl) (by kernel_rfl) (by kernel_rfl) (by kernel_rfl)) ?_
  intro W base args ds gs before hval hW _ _
  exact contract H enc W base args ds gs before hval hW

theorem holds : Rows.FnCompareSaid :=
  OpenClaim.holds_of_wide 3 Try.f3 rfl rfl rfl rfl rfl rfl rfl ⟨rfl, rfl, rfl, rfl, rfl⟩ rfl rfl rfl rfl rfl (by kernel_rfl) Try.func3 (by kernel_rfl)
    (of_decide_eq_true (by kernel_rfl)) (by unfold Func.isWrapper; first | (rw [if_pos (by decide +kernel)]; kernel_rfl) | (rw [if_neg (by decide +kernel)]; exact ⟨rfl, rfl⟩))
    (fun os started H enc _ => lifted os started H enc)

end Go.Proofs.Ytnehofekgnbelaa.fnCompare

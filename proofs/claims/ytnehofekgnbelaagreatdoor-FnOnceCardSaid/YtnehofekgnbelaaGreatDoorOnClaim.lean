/-
  For every list of ranges, every list of texts, every text and every list of steps the call laws.FnOnce(l, taken, last, ops) returns true, and the arguments read afterwards as before. No condition of ours; the row's listed variables hold what the program's text lays (the given tie).
-/
import Derived.Test.YtnehofekgnbelaaGreatDoorLawOn
import Derived.Test.YtnehofekgnbelaaGreatDoorL1
namespace Go.Proofs.YtnehofekgnbelaaGreatDoor
open Go.ChangeShapes Go.WideShapes Go.ChangeAt Go.RowKit
open Go.WideMaps Go.WideElems
open Go.ChangeMaps (open_string)
set_option linter.unusedVariables false

namespace fnOnce
set_option maxRecDepth 100000 in
theorem contract (H : Type) (enc : TypeId × Value → H) (W : World) (base : Nat) (args : Array Value) (ds gs : List (DataW H)) (before : List MemPlace)
    (hval : ∀ (j : Nat) t v, Tryz.f6.params[j]? = some t → args[j]? = some v → Value.okWide Tryz.prog W .any base t v)
    (hW : DataW.Whole enc Tryz.prog Tryz.f6.params.toList Rows.fnOnceSpec.vars false W args.toList ds gs before) (hT : Tab W) :
    Calls Tryz.prog 6 args W fun e W' => ∃ v, e = .returned v ∧ Rows.fnOnceSpec.post enc Tryz.prog Tryz.f6 false true false false W args v W' := by
  have hW' := hW
  obtain ⟨p, q, hA0, hV, hbef, hfz, hnd⟩ := hW
  have hA : DataW.TrodAll enc Tryz.prog W 0 (fun _ => true) true Tryz.f6.params.toList args.toList ds p := hA0
  rw [Tryz.params6] at hA hval
  obtain ⟨v0, v1, v2, v3, d0, d1, d2, d3, p0, p1, p2, p3, rfl, rfl, rfl, h0, h1, h2, h3⟩ := trodAll_four hA
  obtain ⟨ao, cap, xs, rfl, hrgs⟩ := open_ranges (hval 0 28 v0 (by rfl) (by rfl)) h0
  obtain ⟨ss, hss⟩ := open_strs (hval 1 29 v1 (by rfl) (by rfl)) h1
  obtain ⟨s, rfl, rfl, rfl, hs⟩ := open_string Tryz.underlying9 (hval 2 9 v2 (by rfl) (by rfl)) h2
  obtain ⟨oo, oc, ys, rfl, hops⟩ := open_ops (hval 3 30 v3 (by rfl) (by rfl)) h3
  obtain ⟨rfl, rfl⟩ := trodVars_none hV
  refine (lawOn ao cap xs _ ss s oo oc ys W hrgs hss hops hT).mono fun e W' ⟨he, hb⟩ => ?_
  refine ⟨_, he, law_post (tb := 4) laidOut (fun t ht => ?_) rfl hW' hb rfl rfl rfl rfl Tryz.underlying4⟩
  rw [Tryz.params6] at ht
  simp only [List.mem_cons, List.not_mem_nil, or_false] at ht
  rcases ht with rfl | rfl | rfl | rfl
  · exact ⟨readRgs, inRgs⟩
  · exact ⟨readStrs, inStrs⟩
  · exact ⟨readStr, inStr⟩
  · exact ⟨readOps, inOps⟩

theorem laid_met (os : Os) : laidMet Tryz.prog Rows.fnOnceRow.laid ((laidWorld os).forCall (fun _ _ => 0) ⟨#[], #[.slice none 0 0, .slice none 0 0, .string ByteArray.empty, .slice none 0 0], []⟩).memory :=
  laidMet_of_run' 8 (by kernel_rfl) (by kernel_rfl)
theorem reads (os : Os) {H : Type} (enc : TypeId × Value → H) : ∃ ds places, DataW.whole enc Tryz.prog ((laidWorld os).forCall (fun _ _ => 0) ⟨#[], #[.slice none 0 0, .slice none 0 0, .string ByteArray.empty, .slice none 0 0], []⟩).memory Tryz.f6.params.toList Rows.fnOnceSpec.vars false (#[.slice none 0 0, .slice none 0 0, .string ByteArray.empty, .slice none 0 0] : Array Value).toList 8 = some (ds, [], places) := by
  have h : (DataW.whole enc Tryz.prog ((laidWorld os).forCall (fun _ _ => 0) ⟨#[], #[.slice none 0 0, .slice none 0 0, .string ByteArray.empty, .slice none 0 0], []⟩).memory Tryz.f6.params.toList Rows.fnOnceSpec.vars false (#[.slice none 0 0, .slice none 0 0, .string ByteArray.empty, .slice none 0 0] : Array Value).toList 8).map (fun x => x.2.1) = some [] := by kernel_rfl
  obtain ⟨⟨ds, gs, pl⟩, h1, h2⟩ := Option.map_eq_some_iff.1 h
  simp only at h2
  subst h2
  exact ⟨ds, pl, h1⟩

set_option maxRecDepth 100000 in
theorem lifted (os : Os) (started : os.Started) (H : Type) (enc : TypeId × Value → H) (F : Stop.Interp) :
    ReturnsInHanded {} Tryz.checked os 6 .any ((OpenSpec.ofChange Rows.fnOnceSpec).preRow enc Tryz.prog Tryz.f6 Rows.fnOnceRow.domain false Rows.fnOnceRow.laid) (((OpenSpec.ofChange Rows.fnOnceSpec).at F).post enc Tryz.prog Tryz.f6 false true false false) := by
  obtain ⟨ds, places, hx⟩ := reads os enc
  refine returnsInHanded_of_row (C := Tryz.checked) (s := OpenSpec.ofChange Rows.fnOnceSpec) own started (by kernel_rfl) Tryz.func6
    (witness_row_atRef (enc := enc) (C := Tryz.checked) false (laidWorld os) #[.slice none 0 0, .slice none 0 0, .string ByteArray.empty, .slice none 0 0] rfl (by kernel_rfl) (by kernel_rfl) (by kernel_rfl)
      (OpenSpec.preRow_of_cond 8 hx (by kernel_rfl) (fun k hk => by cases hk) (by kernel_rfl) (laid_met os))) ?_
  intro W base args ds gs before hval hW _ _ _ hL _ _
  exact contract H enc W base args ds gs before hval hW (tab_of_laid hL)

theorem said : Rows.FnOnceSaid :=
  OpenClaim.holds_of_cond 6 Tryz.f6 rfl rfl rfl rfl rfl rfl rfl ⟨rfl, rfl, rfl, rfl, rfl⟩ rfl rfl rfl rfl rfl (by kernel_rfl) Tryz.func6 (by kernel_rfl)
    (of_decide_eq_true (by kernel_rfl)) (by unfold Func.isWrapper; first | (rw [if_pos (by decide +kernel)]; kernel_rfl) | (rw [if_neg (by decide +kernel)]; exact ⟨rfl, rfl⟩))
    (fun os started H enc _ F => by rw [OpenClaim.pre_eq_preRow]; exact lifted os started H enc F)

theorem plain (f : FuncId) (fn : Func) (hf : Tryz.pinned.checked.prog.funcNamed Rows.fnOnceRow.func = some f) (hfn : Tryz.pinned.checked.prog.funcs[f]? = some fn) :
    false = Tryz.pinned.checked.prog.looks [] ∧ ∀ (j : Nat) t, fn.params[j]? = some t → Tryz.pinned.checked.prog.wantsStandIn t = false := by
  obtain rfl : f = 6 := Option.some.inj ((show Tryz.prog.funcNamed Rows.fnOnceRow.func = some 6 by kernel_rfl).symm.trans hf) |>.symm
  obtain rfl : fn = Tryz.f6 := (Option.some.inj (Tryz.func6.symm.trans hfn)).symm
  refine ⟨by kernel_rfl, fun j t ht => ?_⟩
  rw [Tryz.params6] at ht
  have ht := Array.mem_of_getElem? ht
  simp only [List.mem_toArray, List.mem_cons, List.not_mem_nil, or_false] at ht
  rcases ht with rfl | rfl | rfl | rfl
  · exact (show Tryz.prog.wantsStandIn 28 = false by kernel_rfl)
  · exact (show Tryz.prog.wantsStandIn 29 = false by kernel_rfl)
  · exact (show Tryz.prog.wantsStandIn 9 = false by kernel_rfl)
  · exact (show Tryz.prog.wantsStandIn 30 = false by kernel_rfl)

theorem card : Rows.FnOnceCardSaid :=
  Claim7.holds_tied_plain_at .later [] _ _ _ _ said (fun _ h => by cases h) (by kernel_rfl) (fun _ h => by cases h) fnOnce_row_tie rfl ⟨rfl, rfl⟩ (by kernel_rfl) rfl plain (by kernel_rfl)

end fnOnce
end Go.Proofs.YtnehofekgnbelaaGreatDoor

/-
  For every list of ranges, every list of texts, every text and every list of steps the call laws.FnAllocate(l, taken, last, ops) returns true, and the arguments read afterwards as before. No condition of ours; the row's listed variables hold what the program's text lays (the given tie).
-/
import Derived.Test.YtnehofekgnbelaaGreatDoorY51
import Derived.Test.YtnehofekgnbelaaGreatDoorY45
namespace Go.Proofs.YtnehofekgnbelaaGreatDoor
open Go.ChangeShapes Go.WideShapes Go.ChangeAt Go.RowKit
open Go.WideMaps Go.WideElems
open Go.ChangeMaps (open_string)
set_option linter.unusedVariables false
namespace fnAllocate
set_option maxRecDepth 100000 in
theorem zlF (H : Type) (enc : TypeId × Value → H) (W : World) (base : Nat) (args : Array Value) (ds gs : List (DataW H)) (before : List MemPlace)
    (hval : ∀ (j : Nat) t v, Tryz.f4.params[j]? = some t → args[j]? = some v → Value.okWide Tryz.prog W .any base t v)
    (hW : DataW.Whole enc Tryz.prog Tryz.f4.params.toList Rows.fnAllocateSpec.vars false W args.toList ds gs before) (hT : Tab W) :
    Calls Tryz.prog 4 args W fun e W' => ∃ v, e = .returned v ∧ Rows.fnAllocateSpec.post enc Tryz.prog Tryz.f4 false true false false W args v W' := by
  have hW' := hW
  obtain ⟨p, q, hA0, hV, hbef, hfz, hnd⟩ := hW
  have hA : DataW.TrodAll enc Tryz.prog W 0 (fun _ => true) true Tryz.f4.params.toList args.toList ds p := hA0
  rw [Tryz.params4] at hA hval
  obtain ⟨v0, v1, v2, v3, d0, d1, d2, d3, p0, p1, p2, p3, rfl, rfl, rfl, h0, h1, h2, h3⟩ := trodAll_four hA
  obtain ⟨ao, cap, xs, rfl, hrgs⟩ := zeZ (hval 0 28 v0 (by rfl) (by rfl)) h0
  obtain ⟨ss, hss⟩ := ziN (hval 1 29 v1 (by rfl) (by rfl)) h1
  obtain ⟨s, rfl, rfl, rfl, hs⟩ := open_string Tryz.underlying9 (hval 2 9 v2 (by rfl) (by rfl)) h2
  obtain ⟨oo, oc, ys, rfl, hops⟩ := zkV (hval 3 30 v3 (by rfl) (by rfl)) h3
  obtain ⟨rfl, rfl⟩ := trodVars_none hV
  refine (lawAl ao cap xs _ ss s oo oc ys W hrgs hss hops hT).mono fun e W' ⟨he, hb⟩ => ?_
  refine ⟨_, he, zkS (tb := 4) zlW (fun t ht => ?_) rfl hW' hb rfl rfl rfl rfl Tryz.underlying4⟩
  rw [Tryz.params4] at ht
  simp only [List.mem_cons, List.not_mem_nil, or_false] at ht
  rcases ht with rfl | rfl | rfl | rfl
  · exact ⟨zlY, inRgs⟩
  · exact ⟨zkT, zmW⟩
  · exact ⟨zlX, inStr⟩
  · exact ⟨zlZ, inOps⟩
theorem zlG (os : Os) : laidMet Tryz.prog Rows.fnAllocateRow.laid ((zaA os).forCall (fun _ _ => 0) ⟨#[], #[.slice none 0 0, .slice none 0 0, .string ByteArray.empty, .slice none 0 0], []⟩).memory :=
  laidMet_of_run' 8 (by kernel_rfl) (by kernel_rfl)
theorem reads (os : Os) {H : Type} (enc : TypeId × Value → H) : ∃ ds places, DataW.whole enc Tryz.prog ((zaA os).forCall (fun _ _ => 0) ⟨#[], #[.slice none 0 0, .slice none 0 0, .string ByteArray.empty, .slice none 0 0], []⟩).memory Tryz.f4.params.toList Rows.fnAllocateSpec.vars false (#[.slice none 0 0, .slice none 0 0, .string ByteArray.empty, .slice none 0 0] : Array Value).toList 8 = some (ds, [], places) := by
  have h : (DataW.whole enc Tryz.prog ((zaA os).forCall (fun _ _ => 0) ⟨#[], #[.slice none 0 0, .slice none 0 0, .string ByteArray.empty, .slice none 0 0], []⟩).memory Tryz.f4.params.toList Rows.fnAllocateSpec.vars false (#[.slice none 0 0, .slice none 0 0, .string ByteArray.empty, .slice none 0 0] : Array Value).toList 8).map (fun x => x.2.1) = some [] := by kernel_rfl
  obtain ⟨⟨ds, gs, pl⟩, h1, h2⟩ := Option.map_eq_some_iff.1 h
  simp only at h2
  subst h2
  exact ⟨ds, pl, h1⟩
set_option maxRecDepth 100000 in
theorem znD (os : Os) (started : os.Started) (H : Type) (enc : TypeId × Value → H) (F : Stop.Interp) :
    ReturnsInHanded {} Tryz.checked os 4 .any ((OpenSpec.ofChange Rows.fnAllocateSpec).preRow enc Tryz.prog Tryz.f4 Rows.fnAllocateRow.domain false Rows.fnAllocateRow.laid) (((OpenSpec.ofChange Rows.fnAllocateSpec).at F).post enc Tryz.prog Tryz.f4 false true false false) := by
  obtain ⟨ds, places, hx⟩ := reads os enc
  refine returnsInHanded_of_row (C := Tryz.checked) (s := OpenSpec.ofChange Rows.fnAllocateSpec) own started (by kernel_rfl) Tryz.func4
    (witness_row_atRef (enc := enc) (C := Tryz.checked) false (zaA os) #[.slice none 0 0, .slice none 0 0, .string ByteArray.empty, .slice none 0 0] rfl (by kernel_rfl) (by kernel_rfl) (by kernel_rfl)
      (OpenSpec.preRow_of_cond 8 hx (by kernel_rfl) (fun k hk => by cases hk) (by kernel_rfl) (zlG os))) ?_
  intro W base args ds gs before hval hW _ _ _ hL _ _
  exact zlF H enc W base args ds gs before hval hW (zeM hL)
theorem said : Rows.FnAllocateSaid :=
  OpenClaim.holds_of_cond 4 Tryz.f4 rfl rfl rfl rfl rfl rfl rfl ⟨rfl, rfl, rfl, rfl, rfl⟩ rfl rfl rfl rfl rfl (by kernel_rfl) Tryz.func4 (by kernel_rfl)
    (of_decide_eq_true (by kernel_rfl)) (by unfold Func.isWrapper; first | (rw [if_pos (by decide +kernel)]; kernel_rfl) | (rw [if_neg (by decide +kernel)]; exact ⟨rfl, rfl⟩))
    (fun os started H enc _ F => by rw [OpenClaim.pre_eq_preRow]; exact znD os started H enc F)
theorem plain (f : FuncId) (fn : Func) (hf : Tryz.pinned.checked.prog.funcNamed Rows.fnAllocateRow.func = some f) (hfn : Tryz.pinned.checked.prog.funcs[f]? = some fn) :
    false = Tryz.pinned.checked.prog.looks [] ∧ ∀ (j : Nat) t, fn.params[j]? = some t → Tryz.pinned.checked.prog.wantsStandIn t = false := by
  obtain rfl : f = 4 := Option.some.inj ((show Tryz.prog.funcNamed Rows.fnAllocateRow.func = some 4 by kernel_rfl).symm.trans hf) |>.symm
  obtain rfl : fn = Tryz.f4 := (Option.some.inj (Tryz.func4.symm.trans hfn)).symm
  refine ⟨by kernel_rfl, fun j t ht => ?_⟩
  rw [Tryz.params4] at ht
  have ht := Array.mem_of_getElem? ht
  simp only [List.mem_toArray, List.mem_cons, List.not_mem_nil, or_false] at ht
  rcases ht with rfl | rfl | rfl | rfl
  · exact (show Tryz.prog.wantsStandIn 28 = false by kernel_rfl)
  · exact (show Tryz.prog.wantsStandIn 29 = false by kernel_rfl)
  · exact (show Tryz.prog.wantsStandIn 9 = false by kernel_rfl)
  · exact (show Tryz.prog.wantsStandIn 30 = false by kernel_rfl)
theorem card : Rows.FnAllocateCardSaid :=
  Claim7.holds_tied_plain_at .later [] _ _ _ _ said (fun _ h => by cases h) (by kernel_rfl) (fun _ h => by cases h) fnAllocate_row_tie rfl ⟨rfl, rfl⟩ (by kernel_rfl) rfl plain (by kernel_rfl)
end fnAllocate
end Go.Proofs.YtnehofekgnbelaaGreatDoor

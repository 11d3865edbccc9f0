/-
  For every range (four texts) the call laws.FnCanonical(r) returns true, and the argument reads afterwards as before. No condition of ours; the row's listed variables hold what the program's text lays (the given tie).
-/
import Derived.Test.YtnehofekgnbelaaGreatDoorLawCanon
import Derived.Test.YtnehofekgnbelaaGreatDoorM32
import Derived.Lib.SmallJoins
import Derived.Test.YtnehofekgnbelaaGreatDoorTabLaid
namespace Go.Proofs.YtnehofekgnbelaaGreatDoor
open Go.ChangeShapes Go.WideShapes Go.ChangeAt Go.RowKit
open Go.WideMaps Go.WideElems
open Go.ChangeMaps (open_string)
set_option linter.unusedVariables false

namespace fnCanonical
theorem readRg : Tryz.prog.readableRec 23 = true := by kernel_rfl
theorem inRg : 23 < Tryz.prog.types.size := of_decide_eq_true (by kernel_rfl)
theorem cellsRg : Tryz.prog.cellsOf 23 = 4 := by kernel_rfl

set_option maxRecDepth 100000 in
/-- A range as an argument: four texts. -/
theorem open_range {H : Type} {enc : TypeId × Value → H} {w : World} {base b0 : Nat} {spare : Nat → Bool} {held : Bool} {r : Reach} {v : Value} {d : DataW H} {p : List MemPlace}
    (hv : Value.okWide Tryz.prog w r b0 23 v) (h : DataW.Trod enc Tryz.prog w base spare held 23 v d p) : ∃ s0 s1 s2 s3 : ByteArray, v = .agg #[.string s0, .string s1, .string s2, .string s3] := by
  obtain ⟨c0, c1, c2, c3, y0, y1, y2, y3, n, rfl, _, _, k0, k1, k2, k3⟩ := Joins.open_agg4 Tryz.underlying23 (by kernel_rfl) cellsRg hv h
  obtain ⟨s0, e0, _, _⟩ := DataW.trod_string Tryz.underlying9 k0
  obtain ⟨s1, e1, _, _⟩ := DataW.trod_string Tryz.underlying9 k1
  obtain ⟨s2, e2, _, _⟩ := DataW.trod_string Tryz.underlying9 k2
  obtain ⟨s3, e3, _, _⟩ := DataW.trod_string Tryz.underlying9 k3
  refine ⟨s0, s1, s2, s3, ?_⟩
  rw [(List.cons.inj e0).1, (List.cons.inj e1).1, (List.cons.inj e2).1, (List.cons.inj e3).1]

set_option maxRecDepth 100000 in
theorem contract (H : Type) (enc : TypeId × Value → H) (W : World) (base : Nat) (args : Array Value) (ds gs : List (DataW H)) (before : List MemPlace)
    (hval : ∀ (j : Nat) t v, Tryz.f3.params[j]? = some t → args[j]? = some v → Value.okWide Tryz.prog W .any base t v)
    (hW : DataW.Whole enc Tryz.prog Tryz.f3.params.toList Rows.fnCanonicalSpec.vars false W args.toList ds gs before) (hT : Tab W) :
    Calls Tryz.prog 3 args W fun e W' => ∃ v, e = .returned v ∧ Rows.fnCanonicalSpec.post enc Tryz.prog Tryz.f3 false true false false W args v W' := by
  have hW' := hW
  obtain ⟨p, q, hA0, hV, hbef, hfz, hnd⟩ := hW
  have hA : DataW.TrodAll enc Tryz.prog W 0 (fun _ => true) true Tryz.f3.params.toList args.toList ds p := hA0
  rw [Tryz.params3] at hA hval
  obtain ⟨v0, d0, rfl, rfl, h0⟩ := trodAll_one hA
  obtain ⟨s0, s1, s2, s3, rfl⟩ := open_range (hval 0 23 v0 (by rfl) (by rfl)) h0
  obtain ⟨rfl, rfl⟩ := trodVars_none hV
  refine (lawCanon s0 s1 s2 s3 W hT).mono fun e W' ⟨he, hb⟩ => ?_
  refine ⟨_, he, law_post (tb := 4) laidOut (fun t ht => ?_) rfl hW' hb rfl rfl rfl rfl Tryz.underlying4⟩
  rw [Tryz.params3] at ht
  simp only [List.mem_cons, List.not_mem_nil, or_false] at ht
  subst ht
  exact ⟨readRg, inRg⟩

def noRange : Value := .agg #[.string ByteArray.empty, .string ByteArray.empty, .string ByteArray.empty, .string ByteArray.empty]
theorem laid_met (os : Os) : laidMet Tryz.prog Rows.fnCanonicalRow.laid ((laidWorld os).forCall (fun _ _ => 0) ⟨#[], #[noRange], []⟩).memory :=
  laidMet_of_run' 8 (by kernel_rfl) (by kernel_rfl)
theorem reads (os : Os) {H : Type} (enc : TypeId × Value → H) : ∃ ds places, DataW.whole enc Tryz.prog ((laidWorld os).forCall (fun _ _ => 0) ⟨#[], #[noRange], []⟩).memory Tryz.f3.params.toList Rows.fnCanonicalSpec.vars false (#[noRange] : Array Value).toList 8 = some (ds, [], places) :=
  by
  have h : (DataW.whole enc Tryz.prog ((laidWorld os).forCall (fun _ _ => 0) ⟨#[], #[noRange], []⟩).memory Tryz.f3.params.toList Rows.fnCanonicalSpec.vars false (#[noRange] : Array Value).toList 8).map (fun x => x.2.1) = some [] := by kernel_rfl
  obtain ⟨⟨ds, gs, pl⟩, h1, h2⟩ := Option.map_eq_some_iff.1 h
  simp only at h2
  subst h2
  exact ⟨ds, pl, h1⟩

set_option maxRecDepth 100000 in
theorem lifted (os : Os) (started : os.Started) (H : Type) (enc : TypeId × Value → H) (F : Stop.Interp) :
    ReturnsInHanded {} Tryz.checked os 3 .any ((OpenSpec.ofChange Rows.fnCanonicalSpec).preRow enc Tryz.prog Tryz.f3 Rows.fnCanonicalRow.domain false Rows.fnCanonicalRow.laid) (((OpenSpec.ofChange Rows.fnCanonicalSpec).at F).post enc Tryz.prog Tryz.f3 false true false false) := by
  obtain ⟨ds, places, hx⟩ := reads os enc
  refine returnsInHanded_of_row (C := Tryz.checked) (s := OpenSpec.ofChange Rows.fnCanonicalSpec) own started (by kernel_rfl) Tryz.func3
    (witness_row_atRef (enc := enc) (C := Tryz.checked) false (laidWorld os) #[noRange] rfl (by kernel_rfl) (by kernel_rfl) (by kernel_rfl)
      (OpenSpec.preRow_of_cond 8 hx (by kernel_rfl) (fun k hk => by cases hk) (by kernel_rfl) (laid_met os))) ?_
  intro W base args ds gs before hval hW _ _ _ hL _ _
  exact contract H enc W base args ds gs before hval hW (tab_of_laid hL)

theorem said : Rows.FnCanonicalSaid :=
  OpenClaim.holds_of_cond 3 Tryz.f3 rfl rfl rfl rfl rfl rfl rfl ⟨rfl, rfl, rfl, rfl, rfl⟩ rfl rfl rfl rfl rfl (by kernel_rfl) Tryz.func3 (by kernel_rfl)
    (of_decide_eq_true (by kernel_rfl)) (by unfold Func.isWrapper; first | (rw [if_pos (by decide +kernel)]; kernel_rfl) | (rw [if_neg (by decide +kernel)]; exact ⟨rfl, rfl⟩))
    (fun os started H enc _ F => by rw [OpenClaim.pre_eq_preRow]; exact lifted os started H enc F)

theorem plain (f : FuncId) (fn : Func) (hf : Tryz.pinned.checked.prog.funcNamed Rows.fnCanonicalRow.func = some f) (hfn : Tryz.pinned.checked.prog.funcs[f]? = some fn) :
    false = Tryz.pinned.checked.prog.looks [] ∧ ∀ (j : Nat) t, fn.params[j]? = some t → Tryz.pinned.checked.prog.wantsStandIn t = false := by
  obtain rfl : f = 3 := Option.some.inj ((show Tryz.prog.funcNamed Rows.fnCanonicalRow.func = some 3 by kernel_rfl).symm.trans hf) |>.symm
  obtain rfl : fn = Tryz.f3 := (Option.some.inj (Tryz.func3.symm.trans hfn)).symm
  refine ⟨by kernel_rfl, fun j t ht => ?_⟩
  rw [Tryz.params3] at ht
  have ht := Array.mem_of_getElem? ht
  obtain rfl : t = 23 := by simpa using ht
  exact (show Tryz.prog.wantsStandIn 23 = false by kernel_rfl)

theorem card : Rows.FnCanonicalCardSaid :=
  Claim7.holds_tied_plain_at .later [] _ _ _ _ said (fun _ h => by cases h) (by kernel_rfl) (fun _ h => by cases h) fnCanonical_row_tie rfl ⟨rfl, rfl⟩ (by kernel_rfl) rfl plain (by kernel_rfl)

end fnCanonical
end Go.Proofs.YtnehofekgnbelaaGreatDoor

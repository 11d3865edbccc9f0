/-
  For every two ranges (four texts each) the call laws.FnOverlaps(a, b) returns true, and both read afterwards as before. No condition of ours: whatever the arguments are (the statement's own guards let the call return true early).
-/
import Derived.Test.YtnehofekgnbelaaM21
import Derived.Test.YtnehofekgnbelaaM22
import Derived.Lib.SmallJoins
namespace Go.Proofs.Ytnehofekgnbelaa.fnOverlaps
open Go.ChangeShapes Go.WideShapes Go.ChangeAt Go.RowKit
open Go.WideMaps Go.WideElems
open Go.ChangeMaps (open_string)
set_option linter.unusedVariables false

theorem own : ownKnob Try.prog.godebug = none := by kernel_rfl
theorem laidOut : laidOutB Try.prog = true := by kernel_rfl
theorem readStr : Try.prog.readableRec 9 = true := by kernel_rfl
theorem inStr : 9 < Try.prog.types.size := of_decide_eq_true (by kernel_rfl)
theorem readRg : Try.prog.readableRec 32 = true := by kernel_rfl
theorem inRg : 32 < Try.prog.types.size := of_decide_eq_true (by kernel_rfl)
theorem cellsRg : Try.prog.cellsOf 32 = 4 := by kernel_rfl

set_option maxRecDepth 100000 in
/-- A range as an argument: four texts. -/
theorem open_range {H : Type} {enc : TypeId × Value → H} {w : World} {base b0 : Nat} {spare : Nat → Bool} {held : Bool} {r : Reach} {v : Value} {d : DataW H} {p : List MemPlace}
    (hv : Value.okWide Try.prog w r b0 32 v) (h : DataW.Trod enc Try.prog w base spare held 32 v d p) : ∃ s0 s1 s2 s3 : ByteArray, v = .agg #[.string s0, .string s1, .string s2, .string s3] := by
  obtain ⟨c0, c1, c2, c3, y0, y1, y2, y3, n, rfl, _, _, k0, k1, k2, k3⟩ := Joins.open_agg4 Try.underlying32 (by kernel_rfl) cellsRg hv h
  obtain ⟨s0, e0, _, _⟩ := DataW.trod_string Try.underlying9 k0
  obtain ⟨s1, e1, _, _⟩ := DataW.trod_string Try.underlying9 k1
  obtain ⟨s2, e2, _, _⟩ := DataW.trod_string Try.underlying9 k2
  obtain ⟨s3, e3, _, _⟩ := DataW.trod_string Try.underlying9 k3
  refine ⟨s0, s1, s2, s3, ?_⟩
  rw [(List.cons.inj e0).1, (List.cons.inj e1).1, (List.cons.inj e2).1, (List.cons.inj e3).1]

set_option maxRecDepth 100000 in
theorem contract (H : Type) (enc : TypeId × Value → H) (W : World) (base : Nat) (args : Array Value) (ds gs : List (DataW H)) (before : List MemPlace)
    (hval : ∀ (j : Nat) t v, Try.f6.params[j]? = some t → args[j]? = some v → Value.okWide Try.prog W .any base t v)
    (hW : DataW.Whole enc Try.prog Try.f6.params.toList Rows.fnOverlapsSpec.vars false W args.toList ds gs before) :
    Calls Try.prog 6 args W fun e W' => ∃ v, e = .returned v ∧ Rows.fnOverlapsSpec.post enc Try.prog Try.f6 false true false false W args v W' := by
  have hW' := hW
  obtain ⟨p, q, hA0, hV, hbef, hfz, hnd⟩ := hW
  have hA : DataW.TrodAll enc Try.prog W 0 (fun _ => true) true Try.f6.params.toList args.toList ds p := hA0
  rw [Try.params6] at hA hval
  obtain ⟨v0, v1, d0, d1, p0, p1, rfl, rfl, rfl, h0, h1⟩ := trodAll_two hA
  obtain ⟨s0, s1, s2, s3, rfl⟩ := open_range (hval 0 32 v0 (by rfl) (by rfl)) h0
  obtain ⟨t0, t1, t2, t3, rfl⟩ := open_range (hval 1 32 v1 (by rfl) (by rfl)) h1
  obtain ⟨rfl, rfl⟩ := trodVars_none hV
  refine (lawOverlaps s0 s1 s2 s3 t0 t1 t2 t3 W).mono fun e W' ⟨he, hb⟩ => ?_
  refine ⟨_, he, law_post (tb := 4) laidOut (fun t ht => ?_) rfl hW' hb rfl rfl rfl rfl Try.underlying4⟩
  rw [Try.params6] at ht
  simp only [List.mem_cons, List.not_mem_nil, or_false, or_self] at ht
  subst ht
  exact ⟨readRg, inRg⟩

set_option maxRecDepth 100000 in
theorem lifted (os : Os) (started : os.Started) (H : Type) (enc : TypeId × Value → H) :
    ReturnsInHanded {} Try.checked os 6 .any (Rows.fnOverlapsSpec.pre6 enc Try.prog Try.f6 Rows.fnOverlapsRow.domain false) (Rows.fnOverlapsSpec.post enc Try.prog Try.f6 false true false false) := by
  refine returnsInHanded_of_change (C := Try.checked) own started (by kernel_rfl) Try.func6
    (ChangeSpec.witness6 (enc := enc) (C := Try.checked) false ⟨#[], #[.agg #[.string ByteArray.empty, .string ByteArray.empty, .string ByteArray.empty, .string ByteArray.empty], .agg #[.string ByteArray.empty, .string ByteArray.empty, .string ByteArray.empty, .string ByteArray.empty]], []⟩ 8 (by kernel_rfl) (by kernel_rfl) (by kernel_rfl) (by kernel_rfl)) ?_
  intro W base args ds gs before hval hW _ _
  exact contract H enc W base args ds gs before hval hW

theorem holds : Rows.FnOverlapsSaid :=
  OpenClaim.holds_of_wide 6 Try.f6 rfl rfl rfl rfl rfl rfl rfl ⟨rfl, rfl, rfl, rfl, rfl⟩ rfl rfl rfl rfl rfl (by kernel_rfl) Try.func6 (by kernel_rfl)
    (of_decide_eq_true (by kernel_rfl)) (by unfold Func.isWrapper; first | (rw [if_pos (by decide +kernel)]; kernel_rfl) | (rw [if_neg (by decide +kernel)]; exact ⟨rfl, rfl⟩))
    (fun os started H enc _ => lifted os started H enc)

end Go.Proofs.Ytnehofekgnbelaa.fnOverlaps

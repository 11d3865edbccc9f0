/-
  For every list of ranges (four texts each) the call laws.FnSet(l) returns true, and the list reads afterwards as before. No condition of ours: whatever the arguments are (the statement's own guards let the call return true early).
-/
import Derived.Test.YtnehofekgnbelaaM32
import Derived.Test.YtnehofekgnbelaaM33
import Derived.Deep.Slices
import Derived.Deep.Fields
import Derived.ChangeSame
namespace Go.Proofs.Ytnehofekgnbelaa.fnSet
open Go.ChangeShapes Go.WideShapes Go.ChangeAt Go.RowKit
open Go.WideMaps Go.WideElems
open Go.ChangeMaps (open_string)
set_option linter.unusedVariables false

theorem own : ownKnob Try.prog.godebug = none := by kernel_rfl
theorem laidOut : laidOutB Try.prog = true := by kernel_rfl
theorem readStr : Try.prog.readableRec 9 = true := by kernel_rfl
theorem inStr : 9 < Try.prog.types.size := of_decide_eq_true (by kernel_rfl)
theorem readL : Try.prog.readableRec 37 = true := by kernel_rfl
theorem inL : 37 < Try.prog.types.size := of_decide_eq_true (by kernel_rfl)
theorem cellsRg : Try.prog.cellsOf 32 = 4 := by kernel_rfl

section
open Go.Deep
variable {H : Type} {enc : TypeId × Value → H} {P : Program} {w : World} {base : Nat} {spare : Nat → Bool} {held : Bool}
/-- A slice of structs of one-cell fields: each element's cells. -/
theorem open_rows {t e : TypeId} {fs : Array Field} {fuel : Nat} {cs : List Value} {x : DataW H × List MemPlace} (ht : P.underlying t = some (.slice e)) (he : P.underlying e = some (.struct fs))
    (hone : oneCellFields P fs = true) (hC : P.cellsOf e = fs.size) (h : DataW.trod enc P w base spare held fuel t cs = some x) :
    cs = [.slice none 0 0] ∨ ∃ (a : Addr) (len cap : Nat), cs = [.slice (some a) len cap] ∧
      ∀ i, i < len → ∃ n, ∀ (j : Nat) (f : Field), fs[j]? = some f → ∃ (v : Value) (y : DataW H × List MemPlace), w.cell? (a.add (i * fs.size + j)) = some v ∧ DataW.trod enc P w base spare held n f.type [v] = some y := by
  rcases open_slice ht h with ⟨h0, _⟩ | ⟨a, len, cap, m, n, D, Pl, hcs, hb, hl, hm, hmm, hx, hi⟩
  · exact .inl h0
  · refine .inr ⟨a, len, cap, hcs, fun i him => ?_⟩
    obtain ⟨cs', hc, ht'⟩ := hi i (by split at hmm <;> omega)
    rw [hC] at hc
    obtain ⟨ys, n', hn', hy, hlen, hyl, hf⟩ := DataW.trod_struct he ht'
    obtain ⟨_, hcl, hat⟩ := World.cells?_some hc
    refine ⟨n', fun j f hj => ?_⟩
    obtain ⟨ho, hk⟩ := hone_of hone j f hj
    have hjl : j < fs.size := (Array.getElem?_eq_some_iff.1 hj).1
    have hcell := hat j hjl
    have hv : cs'[j]? = some (cs'[j]'(by omega)) := List.getElem?_eq_getElem (by omega)
    have h1 := hf j f hj
    rw [ho, hk] at h1
    have hone' : (cs'.drop j).take 1 = [cs'[j]'(by omega)] := by
      rw [List.drop_eq_getElem_cons (by omega)]
      rfl
    rw [hone'] at h1
    have hys : ys[j]? = some (ys[j]'(by omega)) := List.getElem?_eq_getElem (by omega)
    refine ⟨_, _, ?_, h1.trans hys⟩
    rw [← Go.Deep.add_add, hcell, hv]
end

theorem list_of {Q : Nat → Tx → Prop} (len : Nat) (h : ∀ i, i < len → ∃ x, Q i x) : ∃ xs : List Tx, xs.length = len ∧ ∀ i x, xs[i]? = some x → Q i x := by
  induction len with
  | zero => exact ⟨[], rfl, fun i x hx => by cases hx⟩
  | succ n ih =>
    obtain ⟨xs, hl, hx⟩ := ih (fun i hi => h i (by omega))
    obtain ⟨y, hy⟩ := h n (by omega)
    refine ⟨xs ++ [y], by simp [hl], fun i x hi => ?_⟩
    by_cases e : i < xs.length
    · rw [List.getElem?_append_left e] at hi; exact hx i x hi
    · have := (List.getElem?_eq_some_iff.1 hi).1
      simp at this
      obtain rfl : i = xs.length := by omega
      rw [List.getElem?_append_right (Nat.le_refl _)] at hi
      simp at hi
      subst hi
      rw [hl]
      exact hy

set_option maxRecDepth 100000 in
theorem contract (H : Type) (enc : TypeId × Value → H) (W : World) (base : Nat) (args : Array Value) (ds gs : List (DataW H)) (before : List MemPlace)
    (hval : ∀ (j : Nat) t v, Try.f7.params[j]? = some t → args[j]? = some v → Value.okWide Try.prog W .any base t v)
    (hW : DataW.Whole enc Try.prog Try.f7.params.toList Rows.fnSetSpec.vars false W args.toList ds gs before) :
    Calls Try.prog 7 args W fun e W' => ∃ v, e = .returned v ∧ Rows.fnSetSpec.post enc Try.prog Try.f7 false true false false W args v W' := by
  have hW' := hW
  obtain ⟨p, q, hA0, hV, hbef, hfz, hnd⟩ := hW
  have hA : DataW.TrodAll enc Try.prog W 0 (fun _ => true) true Try.f7.params.toList args.toList ds p := hA0
  rw [Try.params7] at hA hval
  obtain ⟨v0, d0, rfl, rfl, h0⟩ := trodAll_one hA
  have hshape : ∃ (ao : Option Addr) (cap : Nat) (xs : List Tx), v0 = .slice ao xs.length cap ∧ RgsV W ao xs := by
    obtain ⟨a1, len, cap, rfl⟩ := okWide_slice Try.underlying37 (hval 0 37 v0 (by rfl) (by rfl))
    obtain ⟨fuel, hf⟩ := h0
    rcases open_rows Try.underlying37 Try.underlying32 (by kernel_rfl) (by kernel_rfl) hf with hcs | ⟨a, len', cap', hcs, hrow⟩
    · have hv : Value.slice a1 len cap = .slice none 0 0 := by simpa [Value.cells] using hcs
      exact ⟨none, 0, [], hv, fun i x hx => by cases hx⟩
    · have hv : Value.slice a1 len cap = .slice (some a) len' cap' := by simpa [Value.cells] using hcs
      obtain ⟨xs, hl, hxs⟩ := list_of (Q := fun i x => ∃ b off, a = ⟨b, off, none⟩ ∧ b < W.heap.size ∧ W.cell? ⟨b, off + i * 4, none⟩ = some (.string x.a) ∧ W.cell? ⟨b, off + i * 4 + 1, none⟩ = some (.string x.b) ∧ W.cell? ⟨b, off + i * 4 + 2, none⟩ = some (.string x.c) ∧ W.cell? ⟨b, off + i * 4 + 3, none⟩ = some (.string x.d)) len' (fun i hi => by
        obtain ⟨n, hfs⟩ := hrow i hi
        obtain ⟨u0, y0, c0, k0⟩ := hfs 0 _ rfl
        obtain ⟨u1, y1, c1, k1⟩ := hfs 1 _ rfl
        obtain ⟨u2, y2, c2, k2⟩ := hfs 2 _ rfl
        obtain ⟨u3, y3, c3, k3⟩ := hfs 3 _ rfl
        obtain ⟨s0, e0, _, _⟩ := DataW.trod_string Try.underlying9 k0
        obtain ⟨s1, e1, _, _⟩ := DataW.trod_string Try.underlying9 k1
        obtain ⟨s2, e2, _, _⟩ := DataW.trod_string Try.underlying9 k2
        obtain ⟨s3, e3, _, _⟩ := DataW.trod_string Try.underlying9 k3
        obtain ⟨n0, hf0⟩ := hrow 0 (by omega)
        obtain ⟨z, _, cz, _⟩ := hf0 0 _ rfl
        have hs := spot_none_of_cell cz
        clear cz hf0
        obtain ⟨b, off, sp⟩ := a
        simp [Addr.add] at hs
        subst hs
        rw [(List.cons.inj e0).1, Addr.add_lit] at c0
        rw [(List.cons.inj e1).1, Addr.add_lit] at c1
        rw [(List.cons.inj e2).1, Addr.add_lit] at c2
        rw [(List.cons.inj e3).1, Addr.add_lit] at c3
        exact ⟨⟨s0, s1, s2, s3⟩, b, off, rfl, World.block_lt_of_cell? W _ c0, c0, c1, c2, c3⟩)
      refine ⟨some a, cap', xs, by rw [hv, hl], fun i x hx => ?_⟩
      obtain ⟨b, off, rfl, h1, h2⟩ := hxs i x hx
      exact ⟨b, off, rfl, h1, h2⟩
  obtain ⟨ao, cap, xs, rfl, hrgs⟩ := hshape
  obtain ⟨rfl, rfl⟩ := trodVars_none hV
  refine (lawSet ao cap xs W hrgs).mono fun e W' ⟨he, hb⟩ => ?_
  refine ⟨_, he, law_post (tb := 4) laidOut (fun t ht => ?_) rfl hW' hb rfl rfl rfl rfl Try.underlying4⟩
  rw [Try.params7] at ht
  simp only [List.mem_cons, List.not_mem_nil, or_false] at ht
  subst ht
  exact ⟨readL, inL⟩

set_option maxRecDepth 100000 in
theorem lifted (os : Os) (started : os.Started) (H : Type) (enc : TypeId × Value → H) :
    ReturnsInHanded {} Try.checked os 7 .any (Rows.fnSetSpec.pre6 enc Try.prog Try.f7 Rows.fnSetRow.domain false) (Rows.fnSetSpec.post enc Try.prog Try.f7 false true false false) := by
  refine returnsInHanded_of_change (C := Try.checked) own started (by kernel_rfl) Try.func7
    (ChangeSpec.witness6 (enc := enc) (C := Try.checked) false ⟨#[], #[.slice none 0 0], []⟩ 8 (by kernel_rfl) (by kernel_rfl) (by kernel_rfl) (by kernel_rfl)) ?_
  intro W base args ds gs before hval hW _ _
  exact contract H enc W base args ds gs before hval hW

theorem holds : Rows.FnSetSaid :=
  OpenClaim.holds_of_wide 7 Try.f7 rfl rfl rfl rfl rfl rfl rfl ⟨rfl, rfl, rfl, rfl, rfl⟩ rfl rfl rfl rfl rfl (by kernel_rfl) Try.func7 (by kernel_rfl)
    (of_decide_eq_true (by kernel_rfl)) (by unfold Func.isWrapper; first | (rw [if_pos (by decide +kernel)]; kernel_rfl) | (rw [if_neg (by decide +kernel)]; exact ⟨rfl, rfl⟩))
    (fun os started H enc _ => lifted os started H enc)

end Go.Proofs.Ytnehofekgnbelaa.fnSet

/-
  Texts put together: CanW.
-/
import Derived.Test.YtnehofekgnbelaaGreatDoorM20
import Derived.Test.YtnehofekgnbelaaGreatDoorM9

/-
  The world within allocator's (*Range).Canonicalize.
-/
namespace Go.Proofs.YtnehofekgnbelaaGreatDoor
open Go.RowKit
set_option linter.unusedVariables false
set_option maxRecDepth 100000
set_option maxHeartbeats 1000000

/-- An address or nothing; in its standard form, if so told. -/
def OptIn (br : Bool) (w : World) (v : Value) : Option Ad → Prop
  | none => v = .slice none 0 0
  | some a => if br then BriefAt w v a else AdAt w v a
theorem OptIn.opt {br : Bool} {w : World} {v : Value} {o : Option Ad} (h : OptIn br w v o) : OptAt w v o := by
  cases o with
  | none => exact h
  | some a => cases br with
    | true => exact .inr h
    | false => exact h
theorem OptIn.keep {br : Bool} {w w' : World} {v : Value} {o : Option Ad} (h : OptIn br w v o) (hb : Below w.heap.size w w') : OptIn br w' v o := by
  cases o with
  | none => exact h
  | some a => cases br with
    | true => exact BriefAt.keep h hb
    | false => exact AdAt.keep h hb
theorem OptIn.set {br : Bool} {w : World} {v : Value} {o : Option Ad} (h : OptIn br w v o) {p : Addr} {z : Value} (hp : ∀ x : UInt8, w.cell? p ≠ some (u8v x)) : OptIn br (w.setCell p z) v o := by
  cases o with
  | none => exact h
  | some a => cases br with
    | true => exact IPAt.set h hp
    | false => exact AdAt.set h hp

/-- The range's five cells, which may be written, in a world in which its block alone has turned. -/
structure RgW (w0 : World) (B o : Nat) (v0 v1 vi vm v4 : Value) (w : World) : Prop where
  at_ : RgAt w B o v0 v1 vi vm v4
  f0 : w.frozen? ⟨B, o, none⟩ = false
  f1 : w.frozen? ⟨B, o + 1, none⟩ = false
  f2 : w.frozen? ⟨B, o + 2, none⟩ = false
  f4 : w.frozen? ⟨B, o + 4, none⟩ = false
  rest : w0.grownBy w (some B)
  far : ∀ j, (j < o ∨ o + 4 < j) → w.cell? ⟨B, j, none⟩ = w0.cell? ⟨B, j, none⟩
  froz : ∀ j, w.frozen? ⟨B, j, none⟩ = w0.frozen? ⟨B, j, none⟩
section
variable {w0 w w' : World} {B o : Nat} {v0 v1 vi vm v4 : Value}
theorem RgW.on (h : RgW w0 B o v0 v1 vi vm v4 w) (hb : Below w.heap.size w w') : RgW w0 B o v0 v1 vi vm v4 w' :=
  ⟨h.at_.keep hb, (hb.frozen h.at_.lt).trans h.f0, (hb.frozen h.at_.lt).trans h.f1, (hb.frozen h.at_.lt).trans h.f2, (hb.frozen h.at_.lt).trans h.f4,
    h.rest.andThen (row' := none) ⟨hb.os, hb.tape, hb.output, hb.size, fun k hk _ => hb.block k hk⟩ (fun j hj => by cases hj),
    fun j hj => (hb.cell h.at_.lt).trans (h.far j hj), fun j => (hb.frozen h.at_.lt).trans (h.froz j)⟩
theorem grown_set {k : Nat} (h : w0.grownBy w (some B)) (v : Value) : w0.grownBy (w.setCell ⟨B, k, none⟩ v) (some B) :=
  ⟨h.os, h.tape, h.output, by have := h.size; simp; exact this, fun i hi hne => by
    rw [Below.heap_setCell _ _ _ _ (fun e => hne (by rw [e]))]
    exact h.block i hi hne⟩
theorem RgW.set0 (h : RgW w0 B o v0 v1 vi vm v4 w) (v : Value) : RgW w0 B o v v1 vi vm v4 (w.setCell ⟨B, o, none⟩ v) := by
  refine ⟨⟨?_, ?_, ?_, ?_, ?_⟩, ?_, ?_, ?_, ?_, grown_set h.rest v, ?_, ?_⟩
  · exact World.cell?_setCell_same _ _ _ h.at_.c0
  · rw [World.cell?_setCell_other _ _ _ _ (by simp)]; exact h.at_.c1
  · rw [World.cell?_setCell_other _ _ _ _ (by simp)]; exact h.at_.c2
  · rw [World.cell?_setCell_other _ _ _ _ (by simp)]; exact h.at_.c3
  · rw [World.cell?_setCell_other _ _ _ _ (by simp)]; exact h.at_.c4
  · simp [go_sem, h.f0]
  · simp [go_sem, h.f1]
  · simp [go_sem, h.f2]
  · simp [go_sem, h.f4]
  · intro j hj
    rw [World.cell?_setCell_other _ _ _ _ (fun e => by have := congrArg Addr.off e; simp at this; omega)]
    exact h.far j hj
  · intro j
    simp only [World.frozen?_setCell]
    exact h.froz j
theorem RgW.set1 (h : RgW w0 B o v0 v1 vi vm v4 w) (v : Value) : RgW w0 B o v0 v vi vm v4 (w.setCell ⟨B, o + 1, none⟩ v) := by
  refine ⟨⟨?_, ?_, ?_, ?_, ?_⟩, ?_, ?_, ?_, ?_, grown_set h.rest v, ?_, ?_⟩
  · rw [World.cell?_setCell_other _ _ _ _ (by simp)]; exact h.at_.c0
  · exact World.cell?_setCell_same _ _ _ h.at_.c1
  · rw [World.cell?_setCell_other _ _ _ _ (by simp)]; exact h.at_.c2
  · rw [World.cell?_setCell_other _ _ _ _ (by simp)]; exact h.at_.c3
  · rw [World.cell?_setCell_other _ _ _ _ (by simp)]; exact h.at_.c4
  · simp [go_sem, h.f0]
  · simp [go_sem, h.f1]
  · simp [go_sem, h.f2]
  · simp [go_sem, h.f4]
  · intro j hj
    rw [World.cell?_setCell_other _ _ _ _ (fun e => by have := congrArg Addr.off e; simp at this; omega)]
    exact h.far j hj
  · intro j
    simp only [World.frozen?_setCell]
    exact h.froz j
theorem RgW.set2 (h : RgW w0 B o v0 v1 vi vm v4 w) (v : Value) : RgW w0 B o v0 v1 v vm v4 (w.setCell ⟨B, o + 2, none⟩ v) := by
  refine ⟨⟨?_, ?_, ?_, ?_, ?_⟩, ?_, ?_, ?_, ?_, grown_set h.rest v, ?_, ?_⟩
  · rw [World.cell?_setCell_other _ _ _ _ (by simp)]; exact h.at_.c0
  · rw [World.cell?_setCell_other _ _ _ _ (by simp)]; exact h.at_.c1
  · exact World.cell?_setCell_same _ _ _ h.at_.c2
  · rw [World.cell?_setCell_other _ _ _ _ (by simp)]; exact h.at_.c3
  · rw [World.cell?_setCell_other _ _ _ _ (by simp)]; exact h.at_.c4
  · simp [go_sem, h.f0]
  · simp [go_sem, h.f1]
  · simp [go_sem, h.f2]
  · simp [go_sem, h.f4]
  · intro j hj
    rw [World.cell?_setCell_other _ _ _ _ (fun e => by have := congrArg Addr.off e; simp at this; omega)]
    exact h.far j hj
  · intro j
    simp only [World.frozen?_setCell]
    exact h.froz j
theorem RgW.set4 (h : RgW w0 B o v0 v1 vi vm v4 w) (v : Value) : RgW w0 B o v0 v1 vi vm v (w.setCell ⟨B, o + 4, none⟩ v) := by
  refine ⟨⟨?_, ?_, ?_, ?_, ?_⟩, ?_, ?_, ?_, ?_, grown_set h.rest v, ?_, ?_⟩
  · rw [World.cell?_setCell_other _ _ _ _ (by simp)]; exact h.at_.c0
  · rw [World.cell?_setCell_other _ _ _ _ (by simp)]; exact h.at_.c1
  · rw [World.cell?_setCell_other _ _ _ _ (by simp)]; exact h.at_.c2
  · rw [World.cell?_setCell_other _ _ _ _ (by simp)]; exact h.at_.c3
  · exact World.cell?_setCell_same _ _ _ h.at_.c4
  · simp [go_sem, h.f0]
  · simp [go_sem, h.f1]
  · simp [go_sem, h.f2]
  · simp [go_sem, h.f4]
  · intro j hj
    rw [World.cell?_setCell_other _ _ _ _ (fun e => by have := congrArg Addr.off e; simp at this; omega)]
    exact h.far j hj
  · intro j
    simp only [World.frozen?_setCell]
    exact h.froz j
end

/-- The range so far: its texts' addresses, which of them have their standard form. -/
structure Canon (w0 : World) (B o : Nat) (v0 v1 vi vm v4 : Value) (a : Ad) (free : Nat) (b0 b1 b4 : Bool) (o1 o2 o3 : Option Ad) (w : World) : Prop where
  rg : RgW w0 B o v0 v1 vi vm v4 w
  s : OptIn b0 w v0 o1
  e : OptIn b1 w v1 o2
  g : OptIn b4 w v4 o3
  net : BriefAt w vi a
  mask : IPAt w vm (a.mask free)
section
variable {w0 w w' : World} {B o : Nat} {v0 v1 vi vm v4 v : Value} {a : Ad} {free : Nat} {b0 b1 b4 b : Bool} {o1 o2 o3 x : Option Ad}
theorem Canon.on (h : Canon w0 B o v0 v1 vi vm v4 a free b0 b1 b4 o1 o2 o3 w) (hb : Below w.heap.size w w') : Canon w0 B o v0 v1 vi vm v4 a free b0 b1 b4 o1 o2 o3 w' :=
  ⟨h.rg.on hb, h.s.keep hb, h.e.keep hb, h.g.keep hb, BriefAt.keep h.net hb, IPAt.keep h.mask hb⟩
theorem noslice {p : Addr} {b : Option Addr} {n c : Nat} (h : w.cell? p = some (.slice b n c)) : ∀ x : UInt8, w.cell? p ≠ some (u8v x) := fun x => by rw [h]; simp [u8v]
theorem OptIn.slice (h : OptIn b w v x) : ∃ b n c, v = .slice b n c := OptAt.slice h.opt
theorem Canon.set0 (h : Canon w0 B o v0 v1 vi vm v4 a free b0 b1 b4 o1 o2 o3 w) (hv : OptIn b w v x) : Canon w0 B o v v1 vi vm v4 a free b b1 b4 x o2 o3 (w.setCell ⟨B, o, none⟩ v) := by
  obtain ⟨_, _, _, hs⟩ := h.s.slice
  have hn := noslice (hs ▸ h.rg.at_.c0)
  exact ⟨h.rg.set0 v, hv.set hn, h.e.set hn, h.g.set hn, IPAt.set h.net hn, IPAt.set h.mask hn⟩
theorem Canon.set1 (h : Canon w0 B o v0 v1 vi vm v4 a free b0 b1 b4 o1 o2 o3 w) (hv : OptIn b w v x) : Canon w0 B o v0 v vi vm v4 a free b0 b b4 o1 x o3 (w.setCell ⟨B, o + 1, none⟩ v) := by
  obtain ⟨_, _, _, hs⟩ := h.e.slice
  have hn := noslice (hs ▸ h.rg.at_.c1)
  exact ⟨h.rg.set1 v, h.s.set hn, hv.set hn, h.g.set hn, IPAt.set h.net hn, IPAt.set h.mask hn⟩
theorem Canon.set4 (h : Canon w0 B o v0 v1 vi vm v4 a free b0 b1 b4 o1 o2 o3 w) (hv : OptIn b w v x) : Canon w0 B o v0 v1 vi vm v a free b0 b1 b o1 o2 x (w.setCell ⟨B, o + 4, none⟩ v) := by
  obtain ⟨_, _, _, hs⟩ := h.g.slice
  have hn := noslice (hs ▸ h.rg.at_.c4)
  exact ⟨h.rg.set4 v, h.s.set hn, h.e.set hn, hv.set hn, IPAt.set h.net hn, IPAt.set h.mask hn⟩
theorem Canon.begin (h : RgW w0 B o v0 v1 vi vm v4 w) (hs : OptIn b0 w v0 o1) (he : OptIn b1 w v1 o2) (hg : OptIn b4 w v4 o3) (hi : AdAt w vi a) (hm : IPAt w vm (a.mask free)) (hv : BriefAt w v a) :
    Canon w0 B o v0 v1 v vm v4 a free b0 b1 b4 o1 o2 o3 (w.setCell ⟨B, o + 2, none⟩ v) := by
  obtain ⟨_, _, _, _, hs'⟩ := hi.slice
  have hn := noslice (hs' ▸ h.at_.c2)
  exact ⟨h.set2 v, hs.set hn, he.set hn, hg.set hn, IPAt.set hv hn, IPAt.set hm hn⟩
/-- What Contains looks at. -/
theorem Canon.cont {d : Ad} {u : Value} (h : Canon w0 B o v0 v1 vi vm v4 a free b0 b1 b4 o1 o2 o3 w) (hu : AdAt w u d) (oa : a.ok) (ob : d.ok) (k1 : ∀ s, o1 = some s → s.ok) (k2 : ∀ s, o2 = some s → s.ok) (hf : free ≤ a.room) :
    ContIn w B o v0 v1 vi vm v4 u a free o1 o2 d := ⟨h.rg.at_, h.s.opt, h.e.opt, h.net, h.mask, hu, oa, ob, k1, k2, hf⟩
end

/-- Has the range a standard form? -/
def canonP (a : Ad) (free : Nat) (o1 o2 : Option Ad) : Bool :=
  decide (2 ≤ free) && decide (a.net free = a) && (match o1 with | none => true | some s => cont a free (some s) o2 s) && (match o2 with | none => true | some e => cont a free (some (o1.getD a.up)) (some e) e)

theorem up_ok {a : Ad} {free : Nat} (ok : a.ok) (hf : free ≤ a.room) (h2 : 2 ≤ free) (hn : a.net free = a) : a.up.ok := by
  have hl := last_ok ok hf
  have hn2 : a.n / 2 ^ free * 2 ^ free = a.n := congrArg Ad.n hn
  unfold Ad.ok at hl ⊢
  have h4 : 2 ^ 2 ≤ 2 ^ free := Nat.pow_le_pow_right (by decide) h2
  have h5 : (a.last free).n = a.n + (2 ^ free - 1) := by show a.n / 2 ^ free * 2 ^ free + _ = _; rw [hn2]
  have h6 : (a.last free).six = a.six := rfl
  have h7 : a.up.six = a.six := rfl
  have h8 : a.up.n = a.n + 1 := rfl
  rw [h5, h6] at hl
  rw [h7, h8]
  have : a.n + 1 ≤ a.n + (2 ^ free - 1) := by omega
  exact Nat.lt_of_le_of_lt this hl

end Go.Proofs.YtnehofekgnbelaaGreatDoor

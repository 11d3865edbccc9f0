/-
  Texts put together: Hold.
-/
import Derived.Test.YtnehofekgnbelaaGreatDoorY2
import Derived.Deep.RegionHeld3
namespace Go.Proofs.YtnehofekgnbelaaGreatDoor
open Go.RowKit
set_option linter.unusedVariables false
section
variable {P : Program} {ops : Array Oper} {Q : Exit → Act → World → Prop} {md : Region.Mode} {st : Nat} {C D : World → Prop}
def CD (st : Nat) (C D : World → Prop) (l : Array Bool) (w : World) : Prop := D w ∧ (l.getD st true = false → C w)
theorem CD.iff {i : Nat} {l : Array Bool} {w : World} (h : i ≠ st) : CD st C D (l.setIfInBounds i true) w ↔ CD st C D l w := by
 unfold CD
 rw [getD_set_ne true h]
def zdE (P : Program) (md : Region.Mode) (ops : Array Oper) (Q : Exit → Act → World → Prop) (st : Nat) (C D : World → Prop) : Nat → Array Bool → Act → World → Prop
 | 0, l, a, w => Region.ready md ops l = [] ∧ Q .normal a w
 | f + 1, l, a, w => (Region.ready md ops l = [] → Q .normal a w) ∧
  ∀ i ∈ Region.ready md ops l, wpOp P ops Q i (fun a' w' => CD st C D (l.setIfInBounds i true) w' ∧ zdE P md ops Q st C D f (l.setIfInBounds i true) a' w') a w
theorem zcD : ∀ (f : Nat) (l : Array Bool) (a : Act) (w : World), zdE P md ops Q st C D f l a w → wpAny P md ops Q f l a w
 | 0, _, _, _, h => h
 | f + 1, _, _, _, h => ⟨h.1, fun i hi => wpOp_mono (fun a' w' h' => zcD f _ a' w' h'.2) (h.2 i hi)⟩
def zhI (md : Region.Mode) (ops : Array Oper) (st : Nat) (C D : World → Prop) (i : Nat) (w : World) : Prop :=
 ∃ l, HeadInv md ops ops.size l ∧ l.getD i true = false ∧ CD st C D l w
theorem zaZ {i : Nat} {l : Array Bool} (h : i ∈ Region.ready md ops l) : i < ops.size := by
 obtain ⟨_, o, ho, _⟩ := mem_ready.1 h
 exact (Array.getElem?_eq_some_iff.1 ho).1
theorem zdF {i : Nat} {oi : Oper} {v : Value} (hi : ops[i]? = some oi) (hne : i ≠ st) (hsel : ∀ (j : Nat) (o : Oper) cs b, ops[j]? = some o → o.op ≠ .select cs b)
  (hQ : ∀ c a w, Q (.panic c) (a.put oi.dst v) w → Q (.panic c) a w) :
  ∀ (f : Nat) (l : Array Bool) (a : Act) (w : World), HeadInv md ops ops.size l →
   (∀ j oj, ops[j]? = some oj → j ≠ i → l.getD j true = false → (∀ e ∈ oj.after, Region.binds md e = true → e.on ≠ i) → oi.apart ops oj = true) →
   i ∈ Region.ready md ops l → YieldsIf P ops (zhI md ops st C D i) oi v a → CD st C D l w →
   zdE P md ops Q st C D f (l.setIfInBounds i true) (a.put oi.dst v) w → zdE P md ops Q st C D (f + 1) l a w := by
 intro f
 induction f with
 | zero =>
  intro l a w inv _ hr hy hS H
  refine ⟨fun h => (by rw [h] at hr; cases hr), fun j hj => ?_⟩
  by_cases hji : j = i
  ·subst hji; exact hy.wpOp hi ⟨l, inv, (mem_ready.1 hr).1, hS⟩ ⟨(CD.iff hne).2 hS, H⟩
  ·have := ready_mono hj hji
   rw [H.1] at this
   cases this
 | succ f ih =>
  intro l a w inv hfree hr hy hS H
  refine ⟨fun h => (by rw [h] at hr; cases hr), fun j hj => ?_⟩
  by_cases hji : j = i
  ·subst hji; exact hy.wpOp hi ⟨l, inv, (mem_ready.1 hr).1, hS⟩ ⟨(CD.iff hne).2 hS, H⟩
  ·have h1 := H.2 j (ready_mono hj hji)
   obtain ⟨hjun, oj, hoj, hall⟩ := mem_ready.1 hj
   have hnot : ∀ e ∈ oj.after, Region.binds md e = true → e.on ≠ i := fun e he hb heq => by
    have h1 := hall e he hb
    rw [heq, getD_both (mem_ready.1 hr).1] at h1
    cases h1
   have h2 := wpOp_putIf hoj (hfree j oj hoj hji hjun hnot) (fun cs b => hsel i oi cs b hi) (fun cs b => hsel j oj cs b hoj) hQ hy h1
   have hfree' : ∀ k ok, ops[k]? = some ok → k ≠ i → (l.setIfInBounds j true).getD k true = false →
     (∀ e ∈ ok.after, Region.binds md e = true → e.on ≠ i) → oi.apart ops ok = true := fun k ok hk hki hun hno => by
    refine hfree k ok hk hki ?_ hno
    by_cases hjk : j = k
    ·subst hjk; exact hjun
    ·rw [getD_set_ne true hjk] at hun; exact hun
   refine wpOp_mono (fun a' w' h3 => ?_) h2
   have hcd : CD st C D (l.setIfInBounds j true) w' := by
    have := h3.2.1
    rw [Array.setIfInBounds_comm _ _ (Ne.symm hji)] at this
    exact (CD.iff hne).1 this
   refine ⟨hcd, ih (l.setIfInBounds j true) a' w' (inv.set hj (zaZ hj)) hfree' (ready_mono hr (Ne.symm hji)) h3.1 hcd ?_⟩
   rw [Array.setIfInBounds_comm _ _ hji]
   exact h3.2.2
def edgeB (md : Region.Mode) (ops : Array Oper) (s i : Nat) : Bool := match ops[s]? with
 | some o => o.after.any fun e => Region.binds md e && e.on == i
 | none => false
theorem zhJ {i : Nat} {w : World} (he : edgeB md ops st i = true) (h : zhI md ops st C D i w) : C w ∧ D w := by
 obtain ⟨l, inv, hl, hD, hC⟩ := h
 refine ⟨hC ?_, hD⟩
 unfold edgeB at he
 split at he
 ·rename_i o ho
  rw [Array.any_eq_true] at he
  obtain ⟨k, hk, hb⟩ := he
  rw [Bool.and_eq_true, beq_iff_eq] at hb
  cases hs : l.getD st true with
  | false => rfl
  | true =>
   exfalso
   have hlt : st < l.size := by rw [inv.size]; exact (Array.getElem?_eq_some_iff.1 ho).1
   have hs' : l.getD st false = true := by simp [hlt] at hs ⊢; exact hs
   have := inv.closed st o ho hs' _ (Array.getElem_mem hk) hb.1
   rw [hb.2, getD_both hl] at this
   cases this
 ·cases he
def GoC (P : Program) (md : Region.Mode) (ops : Array Oper) (Q : Exit → Act → World → Prop) (st : Nat) (C D : World → Prop) (f : Nat) (l : Array Bool) (a : Act) (w : World) : Prop :=
 HeadInv md ops ops.size l → CD st C D l w → zdE P md ops Q st C D f l a w
variable {f : Nat} {l : Array Bool} {ts : Array Value} {df : List Deferred} {w : World} {oi : Oper}
theorem GoC.first {v : Value} (i d : Nat) (hi : ops[i]? = some oi) (hd : oi.dst = some d) (hne : (i == st) = false) (hs : Region.noSelect ops = true) (hf : Region.free md ops l i = true) (hr : (Region.ready md ops l).contains i = true)
  (hQ : ∀ c (a : Act) v w, Q (.panic c) (a.put (some d) v) w → Q (.panic c) a w) (hy : YieldsIf P ops (zhI md ops st C D i) oi v ⟨ts, df⟩)
  (h : GoC P md ops Q st C D f (l.setIfInBounds i true) ⟨ts.setIfInBounds d v, df⟩ w) : GoC P md ops Q st C D (f + 1) l ⟨ts, df⟩ w := by
 intro inv cd
 have hr' : i ∈ Region.ready md ops l := by simpa using hr
 have hne' : i ≠ st := by simpa using hne
 refine zdF hi hne' (Region.noSelect_spec hs) (fun c a w h => hQ c a _ w (by rw [hd] at h; exact h)) f l _ w inv (Region.free_spec hi hf) hr' hy cd ?_
 rw [hd]
 exact h (inv.set hr' (zaZ hr')) ((CD.iff hne').2 cd)
theorem takeC (i d : Nat) (v : Value) (hi : ops[i]? = some oi) (hd : oi.dst = some d) (hne : (i == st) = false) (hs : Region.noSelect ops = true) (hf : Region.free md ops l i = true) (hr : (Region.ready md ops l).contains i = true)
  (hQ : ∀ c (a : Act) v w, Q (.panic c) (a.put (some d) v) w → Q (.panic c) a w) (hw : Region.wanted oi (yielded ops ts) = true) (he : edgeB md ops st i = true) (hy : ∀ w, C w → D w → (execOp (Act.mk ts df).eval oi).run P w = .ok (.value v) w)
  (h : GoC P md ops Q st C D f (l.setIfInBounds i true) ⟨ts.setIfInBounds d v, df⟩ w) : GoC P md ops Q st C D (f + 1) l ⟨ts, df⟩ w :=
 GoC.first i d hi hd hne hs hf hr hQ (.inl ⟨hw, fun w hw' => hy w (zhJ he hw').1 (zhJ he hw').2⟩) h
theorem takeD (i d : Nat) (v : Value) (hi : ops[i]? = some oi) (hd : oi.dst = some d) (hne : (i == st) = false) (hs : Region.noSelect ops = true) (hf : Region.free md ops l i = true) (hr : (Region.ready md ops l).contains i = true)
  (hQ : ∀ c (a : Act) v w, Q (.panic c) (a.put (some d) v) w → Q (.panic c) a w) (hw : Region.wanted oi (yielded ops ts) = true) (hy : ∀ w, D w → (execOp (Act.mk ts df).eval oi).run P w = .ok (.value v) w)
  (h : GoC P md ops Q st C D f (l.setIfInBounds i true) ⟨ts.setIfInBounds d v, df⟩ w) : GoC P md ops Q st C D (f + 1) l ⟨ts, df⟩ w :=
 GoC.first i d hi hd hne hs hf hr hQ (.inl ⟨hw, fun w hw' => hy w (by obtain ⟨_, _, _, hD, _⟩ := hw'; exact hD)⟩) h
theorem zdG {a : Act} (i : Nat) (hr : Region.ready md ops l = [i]) (ho : ops[i]? = some oi)
  (h : ∀ K' : Act → World → Prop, Shut (∀ a w, D w → C w → GoC P md ops Q st C D f (l.setIfInBounds i true) a w → K' a w) → if Region.wanted oi (yielded ops a.tmps) = true then Oper.wp P oi a w K' Q else K' (a.put oi.dst undef) w) :
  GoC P md ops Q st C D (f + 1) l a w := by
 intro inv cd
 refine ⟨fun h0 => absurd (hr.symm.trans h0) (by simp), fun j hj => ?_⟩
 have hj' := hj
 rw [hr, List.mem_singleton] at hj'
 subst hj'
 exact wpOp_step ho (fun K' hK => h K' (fun a w hD hC hG => hK a w ⟨⟨hD, fun _ => hC⟩, hG (inv.set hj (zaZ hj)) ⟨hD, fun _ => hC⟩⟩))
theorem zdH {a : Act} (i : Nat) (hr : Region.ready md ops l = [i]) (ho : ops[i]? = some oi) (hst : (l.setIfInBounds i true).getD st true = true)
  (h : ∀ K' : Act → World → Prop, Shut (∀ a w, D w → GoC P md ops Q st C D f (l.setIfInBounds i true) a w → K' a w) → if Region.wanted oi (yielded ops a.tmps) = true then Oper.wp P oi a w K' Q else K' (a.put oi.dst undef) w) :
  GoC P md ops Q st C D (f + 1) l a w := by
 intro inv cd
 refine ⟨fun h0 => absurd (hr.symm.trans h0) (by simp), fun j hj => ?_⟩
 have hj' := hj
 rw [hr, List.mem_singleton] at hj'
 subst hj'
 exact wpOp_step ho (fun K' hK => h K' (fun a w hD hG => hK a w ⟨⟨hD, fun h => (by rw [hst] at h; cases h)⟩, hG (inv.set hj (zaZ hj)) ⟨hD, fun h => (by rw [hst] at h; cases h)⟩⟩))
theorem doneC {a : Act} (hr : Region.ready md ops l = []) (h : Q .normal a w) : ∀ f, GoC P md ops Q st C D f l a w
 | 0 => fun _ _ => ⟨hr, h⟩
 | _ + 1 => fun _ _ => ⟨fun _ => h, fun i hi => by rw [hr] at hi; cases hi⟩
theorem xN {id : Nat} {a : Act} (hm : P.follows .mixedOrders = true) (hD : D w.drew) (hC : C w.drew)
  (h : GoC P .any ops Q st C D ops.size (Array.replicate ops.size false) a w.drew) : (Code.region id ops true).wp P Q a w :=
 wp_region_any hm (zcD _ _ _ _ (h ⟨by simp, fun j oj _ hl => (by rw [getD_replicate_false] at hl; cases hl), fun t ht ht' => absurd ht' (by omega)⟩ ⟨hD, fun _ => hC⟩))
end
end Go.Proofs.YtnehofekgnbelaaGreatDoor

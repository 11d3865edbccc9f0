/-
  Texts put together: Kin.
-/
import Derived.Test.YtnehofekgnbelaaGreatDoorM1
import Derived.StillTailTactics
import Derived.BigQuiet
import Derived.OrdersHeld
namespace Go.Proofs.YtnehofekgnbelaaGreatDoor
open Go.RowKit
set_option linter.unusedVariables false
theorem zh {p : Prop} (h : p) : Hid p := Lib.hid h
theorem sA (l : List Value) (i : Nat) (a : Value) : l.toArray.setIfInBounds i a = (l.set i a).toArray := by simp
theorem sB (x a : Value) (l : List Value) : (x :: l).set 0 a = a :: l := rfl
theorem sC (x a : Value) (l : List Value) (n : Nat) : (x :: l).set (n + 1) a = x :: l.set n a := rfl
section
variable {P : Program} {ops : Array Oper} {md : Region.Mode} {C : World → Prop}
def HeadQ (P : Program) (md : Region.Mode) (ops : Array Oper) (C : World → Prop) (n : Nat) (L : Array Bool → Act → Prop) : Nat → Array Bool → Act → Prop
 | 0, d, a => L d a
 | f + 1, d, a => Region.ready md ops d ≠ [] ∧ ∀ i, i ∈ Region.ready md ops d → i < n ∧ qOp P ops C i (HeadQ P md ops C n L f (d.setIfInBounds i true)) a
theorem HeadQ.any {n g : Nat} {L : Array Bool → Act → Prop} {Q : Exit → Act → World → Prop} (hL : ∀ d a w, C w → L d a → wpAny P md ops Q g d a w) (f : Nat) :
  ∀ (d : Array Bool) (a : Act) (w : World), C w → HeadQ P md ops C n L f d a → wpAny P md ops Q (f + g) d a w := by
 induction f with
 | zero => intro d a w hw h; rw [Nat.zero_add]; exact hL d a w hw h
 | succ f ih =>
  intro d a w hw h
  rw [Nat.add_right_comm]
  exact ⟨fun e => absurd e h.1, fun i hi => wpOp_of_qOp hw (fun a' w' hw' h' => ih _ a' w' hw' h') (h.2 i hi).2⟩
theorem HeadQ.first {n i : Nat} {oi : Oper} {v : Value} {L : Array Bool → Act → Prop} (hi : ops[i]? = some oi) (hsel : Region.noSelect ops = true)
  (hs : Region.sinkB md ops n = true) (hc : Region.chainB md ops n = true) (hn : n < ops.size) (hin : i < n) (hend : ∀ d a, L d a → ∀ j, j ∈ Region.ready md ops d → n ≤ j) (f : Nat) :
  ∀ (d : Array Bool) (a : Act), HeadInv md ops n d →
   (∀ j oj, ops[j]? = some oj → j ≠ i → d.getD j true = false → (∀ e ∈ oj.after, Region.binds md e = true → e.on ≠ i) → oi.apart ops oj = true) →
   i ∈ Region.ready md ops d → YieldsIn P ops C oi v a → HeadQ P md ops C n L f (d.setIfInBounds i true) (a.put oi.dst v) → HeadQ P md ops C n L (f + 1) d a := by
 induction f with
 | zero =>
  intro d a inv _ hr hy H
  refine ⟨List.ne_nil_of_mem hr, fun j hj => ?_⟩
  have hjn : j < n := Nat.lt_of_not_le fun h => tail_waits hs hc hn inv _ i rfl hin (mem_ready.1 hr).1 j h hj
  by_cases e : j = i
  ·subst e; exact ⟨hjn, hy.qOp hi H⟩
  ·exact absurd (hend _ _ H j (ready_mono hj e)) (Nat.not_le_of_lt hjn)
 | succ f ih =>
  intro d a inv hfree hr hy H
  refine ⟨List.ne_nil_of_mem hr, fun j hj => ?_⟩
  have hjn : j < n := Nat.lt_of_not_le fun h => tail_waits hs hc hn inv _ i rfl hin (mem_ready.1 hr).1 j h hj
  refine ⟨hjn, ?_⟩
  by_cases e : j = i
  ·subst e; exact hy.qOp hi H
  obtain ⟨hju, oj, hoj, hall⟩ := mem_ready.1 hj
  have hno : ∀ e ∈ oj.after, Region.binds md e = true → e.on ≠ i := by
   intro x hx hb hxi
   have := hall x hx hb
   rw [hxi, getD_both (mem_ready.1 hr).1] at this
   cases this
  have h2 := qOp_put hoj (hfree j oj hoj e hju hno) (fun cs b => Region.noSelect_spec hsel i oi cs b hi) (fun cs b => Region.noSelect_spec hsel j oj cs b hoj) hy (H.2 j (ready_mono hj e)).2
  refine qOp_mono (fun a' h3 => ih (d.setIfInBounds j true) a' (inv.set hj hjn) (fun k ok hk hki hun hnk => ?_) (ready_mono hr (Ne.symm e)) h3.1 ?_) h2
  ·refine hfree k ok hk hki ?_ hnk
   by_cases hjk : j = k
   ·subst hjk; exact hju
   ·rwa [getD_set_ne true hjk] at hun
  ·rw [Array.setIfInBounds_comm _ _ e]; exact h3.2
theorem HeadQ.lex {n g : Nat} {K : Act → Prop} (hsel : Region.noSelect ops = true) (hs : Region.sinkB md ops n = true) (hc : Region.chainB md ops n = true) (hn : n < ops.size) (l : List Oper) :
  ∀ (k : Nat) (d : Array Bool) (a : Act), (∀ j, j < l.length → l[j]? = ops[k + j]?) → k + l.length = n → HeadInv md ops n d →
  Region.lexHead md ops g l.length k d = true → wpQuiet P ops C K l a → HeadQ P md ops C n (fun d' a' => Region.seqB md ops g n d' = true ∧ K a') l.length d a := by
 induction l with
 | nil =>
  intro k d a _ hk _ hB h
  have hk' : k = n := by simpa using hk
  subst hk'
  exact ⟨by simpa [Region.lexHead] using hB, h⟩
 | cons o l ih =>
  intro k d a hl hk inv hB h
  have h0 : ops[k]? = some o := by simpa using (hl 0 (by simp)).symm
  simp only [List.length_cons, Region.lexHead, Bool.and_eq_true] at hB hk
  have hr : k ∈ Region.ready md ops d := by simpa using hB.1.1
  have hst : qOp P ops C k (wpQuiet P ops C K l) a := by unfold qOp; simp only [h0]; exact h
  obtain ⟨v, hy, hK⟩ := yieldsIn_of_qOp h0 hst
  refine HeadQ.first h0 hsel hs hc hn (by omega) (fun d' a' hL => seqB_ready hL.1) l.length d a inv (Region.free_spec h0 hB.1.2) hr hy ?_
  exact ih (k + 1) _ _ (fun j hj => by have := hl (j + 1) (by simpa using hj); simpa [Nat.add_assoc, Nat.add_comm 1 j] using this) (by omega) (inv.set hr (by omega)) hB.2 hK
theorem zeI {id : Nat} {Q : Exit → Act → World → Prop} {a : Act} {w : World} {l : List Oper} (n : Nat) (hm : P.follows .mixedOrders = true) (hB : Region.lexTailB .any l.toArray n = true)
  (hC : C { w with drawn := w.drawn + 1 }) (h : wpQuiet P l.toArray C (fun a' => ∀ w', C w' → wpList P l.toArray Q (l.drop n) a' w') (l.take n) a) : (Code.region id l.toArray true).wp P Q a w := by
 simp only [Region.lexTailB, Bool.and_eq_true, decide_eq_true_eq] at hB
 obtain ⟨⟨⟨⟨hsel, hn⟩, hs⟩, hc⟩, hlex⟩ := hB
 have hn' : n < l.length := by simpa using hn
 have htl : (l.take n).length = n := by simp; omega
 have hdl : (l.drop n).length = l.toArray.size - n := by simp
 have inv0 : HeadInv .any l.toArray n (Array.replicate l.toArray.size false) :=
  ⟨by simp, fun j oj _ hl => (by rw [getD_replicate_false] at hl; cases hl), fun t _ ht => getD_in (by simpa using ht) (getD_replicate_false _ _)⟩
 have H := HeadQ.lex (md := .any) (g := l.toArray.size - n) hsel hs hc hn (l.take n) 0 _ a (fun j hj => by
  have hj' : j < n := by rw [htl] at hj; exact hj
  simp [hj']) (by simpa using htl) inv0 (by rw [htl]; exact hlex) h
 refine wp_region_any hm ?_
 have E := HeadQ.any (Q := Q) (g := l.toArray.size - n) (fun d a' w' hw' hL => by
  have := wpAny_of_seq (md := .any) (Q' := Q) (l.drop n) n d a' w' (fun j => by simp [List.getElem?_drop]) (by rw [hdl]; exact hL.1) (hL.2 w' hw')
  rwa [hdl] at this) _ _ _ _ hC H
 rw [htl, show n + (l.toArray.size - n) = l.toArray.size by omega] at E
 exact E
end
structure Kin (w : World) where
 on : World
 ok : Below w.heap.size w on
theorem xH {P : Program} {id : Nat} {Q : Exit → Act → World → Prop} {a : Act} {w : World} {l : List Oper} (hm : P.follows .mixedOrders = true) (hB : Region.lexB .any l.toArray = true)
  (h : wpQuiet P l.toArray (fun w' => ∃ x : Kin w, w' = x.on) (fun a' => ∀ w', (∃ x : Kin w, w' = x.on) → Q .normal a' w') l a) : (Code.region id l.toArray true).wp P Q a w :=
 wp_region_quiet (C := fun w' => ∃ x : Kin w, w' = x.on) hm hB ⟨⟨w.drewN 1, below_drewN (Below.refl w.heap.size w) 1⟩, rfl⟩ (by simpa using h)
theorem yW {P : Program} {id : Nat} {Q : Exit → Act → World → Prop} {a : Act} {w : World} {l : List Oper} (n : Nat) (hm : P.follows .mixedOrders = true) (hB : Region.lexTailB .any l.toArray n = true)
  (h : wpQuiet P l.toArray (fun w' => ∃ x : Kin w, w' = x.on) (fun a' => ∀ w', (∃ x : Kin w, w' = x.on) → wpList P l.toArray Q (l.drop n) a' w') (l.take n) a) : (Code.region id l.toArray true).wp P Q a w :=
 zeI (C := fun w' => ∃ x : Kin w, w' = x.on) n hm hB ⟨⟨w.drewN 1, below_drewN (Below.refl w.heap.size w) 1⟩, rfl⟩ h
theorem zV {P : Program} {f : FuncId} {args : Array Value} {w : World} {v : Value} {x : Kin w} {R : Ending → World → Prop} (hR : ∀ e w', R e w' → e = .returned v ∧ Below x.on.heap.size x.on w') (h : Calls P f args x.on R) :
  Calls P f args x.on fun e w' => e = .returned v ∧ ∃ y : Kin w, w' = y.on :=
 h.mono fun e w' hr => ⟨(hR e w' hr).1, ⟨w', below_tr x.ok (hR e w' hr).2⟩, rfl⟩
theorem zG {w : World} {p : Addr} {v : Value} (h : w.cell? p = some v) (x : Kin w) : x.on.cell? p = some v := by
 rw [x.ok.cell (World.block_lt_of_cell? w _ h)]; exact h
theorem zaD {w : World} {k : Nat} {o : Obj} (h : w.heap[k]? = some o) (x : Kin w) : x.on.heap[k]? = some o := by
 rw [x.ok.block k (Array.getElem?_eq_some_iff.1 h).1]; exact h
section
variable {P : Program} {ops : Array Oper} {Q : Exit → Act → World → Prop} {md : Region.Mode} {S : World → Prop} {fuel : Nat} {listed : Array Bool} {ts : Array Value} {df : List Deferred} {w : World} {oi : Oper}
theorem zA (i d : Nat) (v : Value) (hi : ops[i]? = some oi) (hd : oi.dst = some d) (hs : Region.noSelect ops = true) (hf : Region.free md ops listed i = true) (hr : (Region.ready md ops listed).contains i = true)
  (hQ : ∀ c (a : Act) v w, Q (.panic c) (a.put (some d) v) w → Q (.panic c) a w) (hw : Region.wanted oi (yielded ops ts) = true) (hy : ∀ w, S w → (execOp (Act.mk ts df).eval oi).run P w = .ok (.value v) w) (hS : S w)
  (h : wpAnyH P md ops Q S fuel (listed.setIfInBounds i true) ⟨ts.setIfInBounds d v, df⟩ w) : wpAnyH P md ops Q S (fuel + 1) listed ⟨ts, df⟩ w :=
 wpAnyH_take hi hs hf hr (fun c a w h => hQ c a _ w (by rw [hd] at h; exact h)) (.inl ⟨hw, hy⟩) hS (by rw [hd]; exact h)
theorem zL (i d : Nat) (hi : ops[i]? = some oi) (hd : oi.dst = some d) (hs : Region.noSelect ops = true) (hf : Region.free md ops listed i = true) (hr : (Region.ready md ops listed).contains i = true)
  (hQ : ∀ c (a : Act) v w, Q (.panic c) (a.put (some d) v) w → Q (.panic c) a w) (hw : Region.wanted oi (yielded ops ts) = false) (hS : S w)
  (h : wpAnyH P md ops Q S fuel (listed.setIfInBounds i true) ⟨ts.setIfInBounds d undef, df⟩ w) : wpAnyH P md ops Q S (fuel + 1) listed ⟨ts, df⟩ w :=
 wpAnyH_take hi hs hf hr (fun c a w h => hQ c a _ w (by rw [hd] at h; exact h)) (.inr ⟨hw, rfl⟩) hS (by rw [hd]; exact h)
end
end Go.Proofs.YtnehofekgnbelaaGreatDoor

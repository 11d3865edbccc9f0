/-
  Texts put together: AlAsk, OpenA, TextI, OnPure, Fits4.
-/
import Derived.Test.YtnehofekgnbelaaGreatDoorK14
import Derived.Test.YtnehofekgnbelaaGreatDoorK13
import Derived.Test.YtnehofekgnbelaaGreatDoorM1
import Derived.Test.YtnehofekgnbelaaGreatDoorM32
import Derived.Deep.Slices
import Derived.Deep.Fields
import Derived.ChangeSame
import Derived.Handy
import Derived.Carry
import Derived.Lib.SmallJoins
import Derived.Test.YtnehofekgnbelaaGreatDoorK5
import Derived.Test.YtnehofekgnbelaaGreatDoorM9
import Derived.Maps.Views

/-
  What Allocate tells of an allocator that can be asked.
-/
namespace Go.Proofs.YtnehofekgnbelaaGreatDoor
open Go.RowKit
set_option linter.unusedVariables false
set_option maxRecDepth 100000
set_option maxHeartbeats 1000000

theorem strVals_nil (w : World) : SlAt w (.slice none 0 0) (strVals []) := ⟨none, 0, rfl, Nat.le_refl _, Nat.zero_le _, fun _ => ⟨rfl, rfl⟩, fun a h => by cases h⟩
theorem opsT_nil (w : World) (ao : Option Addr) : OpsT w ao [] := fun i x hx => by cases hx
/-- What Allocate tells of an allocator that can be asked. -/
theorem allocate_asked (ao : Option Addr) (cap0 : Nat) (xs : List Tx) (vt : Value) (ts : List ByteArray) (last : ByteArray) (ys : List OpT) (Rs : List RIn) (al : List Ad) (la : Option Ad) (os0 : List OpIn) (hA : Asked xs ts last ys Rs al la os0)
    (oo : Option Addr) (oc : Nat) (os : List OpIn) (w : World) (h : RgsV w ao xs) (ht : SlAt w vt (strVals ts)) (hops : OpsV w oo os) (hfit : ∀ o ∈ os, OpFit o) (hol : os.length ≤ 100) (htab : Tab w) :
    Calls Tryz.prog 18 #[.slice ao xs.length cap0, vt, .string last, .slice oo os.length oc] w
      (AllocPost w (runD Rs (rdL Rs) ⟨(tkDesk al).held, la⟩ os).1 (sortL ((runD Rs (rdL Rs) ⟨(tkDesk al).held, la⟩ os).2.held.map leftB))) := by
  have hset := (sizeZ_set hA.size).1
  have hi := implB_of hA.all hset
  obtain ⟨hne, hg⟩ := good_of hA.all hi
  exact allocate_any ao cap0 xs Rs vt ts al last la oo oc os (rdL Rs) w h hA.all (by have := hA.l4; omega) hi ht hA.tk (by have := hA.l100; omega) hA.last hops hfit hol htab (rd_ok Rs hg (dis_of hg hi) hne)
theorem asked_good {xs : List Tx} {ts : List ByteArray} {last : ByteArray} {ys : List OpT} {Rs : List RIn} {al : List Ad} {la : Option Ad} {os : List OpIn} (hA : Asked xs ts last ys Rs al la os) : (∀ R ∈ Rs, Good R) ∧ Dis Rs ∧ 0 < Rs.length := by
  have hset := (sizeZ_set hA.size).1
  have hi := implB_of hA.all hset
  obtain ⟨hne, hg⟩ := good_of hA.all hi
  exact ⟨hg, dis_of hg hi, hne⟩

end Go.Proofs.YtnehofekgnbelaaGreatDoor

/-
  Arguments opened: a row of ranges, a row of steps, texts.
-/
namespace Go.Proofs.YtnehofekgnbelaaGreatDoor
open Go.ChangeShapes Go.WideShapes Go.ChangeAt Go.RowKit
open Go.WideMaps Go.WideElems
open Go.ChangeMaps (open_string)
set_option linter.unusedVariables false

theorem readStr : Tryz.prog.readableRec 9 = true := by kernel_rfl
theorem inStr : 9 < Tryz.prog.types.size := of_decide_eq_true (by kernel_rfl)
theorem readInt : Tryz.prog.readableRec 3 = true := by kernel_rfl
theorem inInt : 3 < Tryz.prog.types.size := of_decide_eq_true (by kernel_rfl)
theorem readRgs : Tryz.prog.readableRec 28 = true := by kernel_rfl
theorem inRgs : 28 < Tryz.prog.types.size := of_decide_eq_true (by kernel_rfl)
theorem readOps : Tryz.prog.readableRec 30 = true := by kernel_rfl
theorem inOps : 30 < Tryz.prog.types.size := of_decide_eq_true (by kernel_rfl)
theorem readStrs : Tryz.prog.readableRec 29 = true := by kernel_rfl
theorem inStrs : 29 < Tryz.prog.types.size := of_decide_eq_true (by kernel_rfl)
theorem cellsStr : Tryz.prog.cellsOf 9 = 1 := by kernel_rfl

section
open Go.Deep
variable {H : Type} {enc : TypeId × Value → H} {P : Program} {w : World} {base : Nat} {spare : Nat → Bool} {held : Bool}
/-- A slice of structs of one-cell fields: each element's cells. -/
theorem open_rows {t e : TypeId} {fs : Array Field} {fuel : Nat} {cs : List Value} {x : DataW H × List MemPlace} (ht : P.underlying t = some (.slice e)) (he : P.underlying e = some (.struct fs))
    (hone : oneCellFields P fs = true) (hC : P.cellsOf e = fs.size) (h : DataW.trod enc P w base spare held fuel t cs = some x) :
    cs = [.slice none 0 0] ∨ ∃ (a : Addr) (len cap : Nat), cs = [.slice (some a) len cap] ∧
      ∀ i, i < len → ∃ n, ∀ (j : Nat) (f : Field), fs[j]? = some f → ∃ (v : Value) (y : DataW H × List MemPlace), w.cell? (a.add (i * fs.size + j)) = some v ∧ DataW.trod enc P w base spare held n f.type [v] = some y := by
  rcases open_slice ht h with ⟨h0, _⟩ | ⟨a, len, cap, m, n, D, Pl, hcs, hb, hl, hm, hmm, hx, hi⟩
  · exact .inl h0
  · refine .inr ⟨a, len, cap, hcs, fun i him => ?_⟩
    obtain ⟨cs', hc, ht'⟩ := hi i (by split at hmm <;> omega)
    rw [hC] at hc
    obtain ⟨ys, n', hn', hy, hlen, hyl, hf⟩ := DataW.trod_struct he ht'
    obtain ⟨_, hcl, hat⟩ := World.cells?_some hc
    refine ⟨n', fun j f hj => ?_⟩
    obtain ⟨ho, hk⟩ := hone_of hone j f hj
    have hjl : j < fs.size := (Array.getElem?_eq_some_iff.1 hj).1
    have hcell := hat j hjl
    have hv : cs'[j]? = some (cs'[j]'(by omega)) := List.getElem?_eq_getElem (by omega)
    have h1 := hf j f hj
    rw [ho, hk] at h1
    have hone' : (cs'.drop j).take 1 = [cs'[j]'(by omega)] := by
      rw [List.drop_eq_getElem_cons (by omega)]
      rfl
    rw [hone'] at h1
    have hys : ys[j]? = some (ys[j]'(by omega)) := List.getElem?_eq_getElem (by omega)
    refine ⟨_, _, ?_, h1.trans hys⟩
    rw [← Go.Deep.add_add, hcell, hv]
set_option maxRecDepth 100000
theorem list_of {α : Type} {Q : Nat → α → Prop} (len : Nat) (h : ∀ i, i < len → ∃ x, Q i x) : ∃ xs : List α, xs.length = len ∧ ∀ i x, xs[i]? = some x → Q i x := by
  induction len with
  | zero => exact ⟨[], rfl, fun i x hx => by cases hx⟩
  | succ n ih =>
    obtain ⟨xs, hl, hx⟩ := ih (fun i hi => h i (by omega))
    obtain ⟨y, hy⟩ := h n (by omega)
    refine ⟨xs ++ [y], by simp [hl], fun i x hi => ?_⟩
    by_cases e : i < xs.length
    · rw [List.getElem?_append_left e] at hi; exact hx i x hi
    · have := (List.getElem?_eq_some_iff.1 hi).1
      simp at this
      obtain rfl : i = xs.length := by omega
      rw [List.getElem?_append_right (Nat.le_refl _)] at hi
      simp at hi
      subst hi
      rw [hl]
      exact hy

/-- A row of ranges. -/
theorem open_ranges {r : Reach} {b0 : Nat} {v : Value} {d : DataW H} {p : List MemPlace} (hv : Value.okWide Tryz.prog w r b0 28 v) (h : DataW.Trod enc Tryz.prog w base spare held 28 v d p) :
    ∃ (ao : Option Addr) (cap : Nat) (xs : List Tx), v = .slice ao xs.length cap ∧ RgsV w ao xs := by
  obtain ⟨a1, len, cap, rfl⟩ := okWide_slice Tryz.underlying28 hv
  obtain ⟨fuel, hf⟩ := h
  rcases open_rows Tryz.underlying28 Tryz.underlying23 (by kernel_rfl) (by kernel_rfl) hf with hcs | ⟨a, len', cap', hcs, hrow⟩
  · have hv : Value.slice a1 len cap = .slice none 0 0 := by simpa [Value.cells] using hcs
    exact ⟨none, 0, [], hv, fun i x hx => by cases hx⟩
  · have hv : Value.slice a1 len cap = .slice (some a) len' cap' := by simpa [Value.cells] using hcs
    obtain ⟨xs, hl, hxs⟩ := list_of (Q := fun i (x : Tx) => ∃ b off, a = ⟨b, off, none⟩ ∧ b < w.heap.size ∧ w.cell? ⟨b, off + i * 4, none⟩ = some (.string x.a) ∧ w.cell? ⟨b, off + i * 4 + 1, none⟩ = some (.string x.b) ∧ w.cell? ⟨b, off + i * 4 + 2, none⟩ = some (.string x.c) ∧ w.cell? ⟨b, off + i * 4 + 3, none⟩ = some (.string x.d)) len' (fun i hi => by
      obtain ⟨n, hfs⟩ := hrow i hi
      obtain ⟨u0, y0, c0, k0⟩ := hfs 0 _ rfl
      obtain ⟨u1, y1, c1, k1⟩ := hfs 1 _ rfl
      obtain ⟨u2, y2, c2, k2⟩ := hfs 2 _ rfl
      obtain ⟨u3, y3, c3, k3⟩ := hfs 3 _ rfl
      obtain ⟨s0, e0, _, _⟩ := DataW.trod_string Tryz.underlying9 k0
      obtain ⟨s1, e1, _, _⟩ := DataW.trod_string Tryz.underlying9 k1
      obtain ⟨s2, e2, _, _⟩ := DataW.trod_string Tryz.underlying9 k2
      obtain ⟨s3, e3, _, _⟩ := DataW.trod_string Tryz.underlying9 k3
      obtain ⟨n0, hf0⟩ := hrow 0 (by omega)
      obtain ⟨z, _, cz, _⟩ := hf0 0 _ rfl
      have hs := spot_none_of_cell cz
      clear cz hf0
      obtain ⟨b, off, sp⟩ := a
      simp [Addr.add] at hs
      subst hs
      rw [(List.cons.inj e0).1, Addr.add_lit] at c0
      rw [(List.cons.inj e1).1, Addr.add_lit] at c1
      rw [(List.cons.inj e2).1, Addr.add_lit] at c2
      rw [(List.cons.inj e3).1, Addr.add_lit] at c3
      exact ⟨⟨s0, s1, s2, s3⟩, b, off, rfl, World.block_lt_of_cell? w _ c0, c0, c1, c2, c3⟩)
    refine ⟨some a, cap', xs, by rw [hv, hl], fun i x hx => ?_⟩
    obtain ⟨b, off, rfl, h1, h2⟩ := hxs i x hx
    exact ⟨b, off, rfl, h1, h2⟩
/-- A row of steps. -/
theorem open_ops {r : Reach} {b0 : Nat} {v : Value} {d : DataW H} {p : List MemPlace} (hv : Value.okWide Tryz.prog w r b0 30 v) (h : DataW.Trod enc Tryz.prog w base spare held 30 v d p) :
    ∃ (ao : Option Addr) (cap : Nat) (xs : List OpT), v = .slice ao xs.length cap ∧ OpsT w ao xs := by
  obtain ⟨a1, len, cap, rfl⟩ := okWide_slice Tryz.underlying30 hv
  obtain ⟨fuel, hf⟩ := h
  rcases open_rows Tryz.underlying30 Tryz.underlying45 (by kernel_rfl) (by kernel_rfl) hf with hcs | ⟨a, len', cap', hcs, hrow⟩
  · have hv : Value.slice a1 len cap = .slice none 0 0 := by simpa [Value.cells] using hcs
    exact ⟨none, 0, [], hv, fun i x hx => by cases hx⟩
  · have hv : Value.slice a1 len cap = .slice (some a) len' cap' := by simpa [Value.cells] using hcs
    obtain ⟨xs, hl, hxs⟩ := list_of (Q := fun i (x : OpT) => ∃ b off, a = ⟨b, off, none⟩ ∧ b < w.heap.size ∧ w.cell? ⟨b, off + i * 4, none⟩ = some (.int .i64 x.kind) ∧ w.cell? ⟨b, off + i * 4 + 1, none⟩ = some (.string x.id) ∧ w.cell? ⟨b, off + i * 4 + 2, none⟩ = some (.string x.at_) ∧ w.cell? ⟨b, off + i * 4 + 3, none⟩ = some (.string x.asked)) len' (fun i hi => by
      obtain ⟨n, hfs⟩ := hrow i hi
      obtain ⟨u0, y0, c0, k0⟩ := hfs 0 _ rfl
      obtain ⟨u1, y1, c1, k1⟩ := hfs 1 _ rfl
      obtain ⟨u2, y2, c2, k2⟩ := hfs 2 _ rfl
      obtain ⟨u3, y3, c3, k3⟩ := hfs 3 _ rfl
      obtain ⟨s0, e0, _, _⟩ := DataW.trod_int Tryz.underlying3 k0
      obtain ⟨s1, e1, _, _⟩ := DataW.trod_string Tryz.underlying9 k1
      obtain ⟨s2, e2, _, _⟩ := DataW.trod_string Tryz.underlying9 k2
      obtain ⟨s3, e3, _, _⟩ := DataW.trod_string Tryz.underlying9 k3
      obtain ⟨n0, hf0⟩ := hrow 0 (by omega)
      obtain ⟨z, _, cz, _⟩ := hf0 0 _ rfl
      have hs := spot_none_of_cell cz
      clear cz hf0
      obtain ⟨b, off, sp⟩ := a
      simp [Addr.add] at hs
      subst hs
      rw [(List.cons.inj e0).1, Addr.add_lit] at c0
      rw [(List.cons.inj e1).1, Addr.add_lit] at c1
      rw [(List.cons.inj e2).1, Addr.add_lit] at c2
      rw [(List.cons.inj e3).1, Addr.add_lit] at c3
      exact ⟨⟨s0, s1, s2, s3⟩, b, off, rfl, World.block_lt_of_cell? w _ c0, c0, c1, c2, c3⟩)
    refine ⟨some a, cap', xs, by rw [hv, hl], fun i x hx => ?_⟩
    obtain ⟨b, off, rfl, h1, h2⟩ := hxs i x hx
    exact ⟨b, off, rfl, h1, h2⟩
/-- A row of texts. -/
theorem open_strs {r : Reach} {b0 : Nat} {v : Value} {d : DataW H} {p : List MemPlace} (hv : Value.okWide Tryz.prog w r b0 29 v) (h : DataW.Trod enc Tryz.prog w base spare held 29 v d p) :
    ∃ ss : List ByteArray, SlAt w v (strVals ss) := by
  obtain ⟨a1, len, cap, rfl⟩ := okWide_slice Tryz.underlying29 hv
  obtain ⟨fuel, hf⟩ := h
  obtain ⟨v, ss, hcs, hsl, _⟩ := open_texts Tryz.underlying29 Tryz.underlying9 cellsStr hf
  have hv : Value.slice a1 len cap = v := by simpa [Value.cells] using hcs
  rw [← hv] at hsl
  exact ⟨ss, hsl⟩
end

end Go.Proofs.YtnehofekgnbelaaGreatDoor

/-
  An address' text tells it (pure): two addresses with one text are one; no text has a stroke or a blank.
-/
namespace Go.Proofs.YtnehofekgnbelaaGreatDoor
open Go.RowKit
set_option linter.unusedVariables false

theorem split_at {c : UInt8} : ∀ {a b x y : List UInt8}, c ∉ a → c ∉ b → a ++ c :: x = b ++ c :: y → a = b ∧ x = y
  | [], [], _, _, _, _, h => ⟨rfl, by simpa using h⟩
  | [], d :: b, x, y, _, hb, h => by
    simp only [List.nil_append, List.cons_append, List.cons.injEq] at h
    exact absurd (by simp [h.1]) hb
  | d :: a, [], x, y, ha, _, h => by
    simp only [List.nil_append, List.cons_append, List.cons.injEq] at h
    exact absurd (by simp [h.1]) ha
  | d :: a, d' :: b, x, y, ha, hb, h => by
    simp only [List.cons_append, List.cons.injEq] at h
    simp only [List.mem_cons, not_or] at ha hb
    obtain ⟨h1, h2⟩ := split_at ha.2 hb.2 h.2
    exact ⟨by rw [h.1, h1], h2⟩
theorem dec_byte : ∀ (n : Nat) (b : UInt8), b ∈ decL n → 48 ≤ b.toNat ∧ b.toNat ≤ 57 := by
  intro n
  induction n using Nat.strongRecOn with
  | ind n ih =>
    intro b hb
    have hlast : ∀ b : UInt8, b = UInt8.ofNat (48 + n % 10) → 48 ≤ b.toNat ∧ b.toNat ≤ 57 := by
      rintro b rfl
      rw [toNat_ofNat]
      omega
    by_cases h : 9 < n
    · rw [decL_of h] at hb
      rcases List.mem_append.1 hb with hb | hb
      · exact ih _ (by omega) b hb
      · exact hlast b (List.mem_singleton.1 hb)
    · rw [decL_small h] at hb
      exact hlast b (List.mem_singleton.1 hb)
theorem dec_ne (n : Nat) : decL n ≠ [] := by
  by_cases h : 9 < n
  · rw [decL_of h]; simp
  · rw [decL_small h]; simp
theorem digit_inj {x y : Nat} (hx : x < 10) (hy : y < 10) (h : UInt8.ofNat (48 + x) = UInt8.ofNat (48 + y)) : x = y := by
  have := congrArg UInt8.toNat h
  rw [toNat_ofNat, toNat_ofNat] at this
  omega
theorem dec_inj : ∀ n m : Nat, decL n = decL m → n = m := by
  intro n
  induction n using Nat.strongRecOn with
  | ind n ih =>
    intro m h
    by_cases h1 : 9 < n
    · by_cases h2 : 9 < m
      · rw [decL_of h1, decL_of h2] at h
        obtain ⟨e1, e2⟩ := List.append_inj' h rfl
        have := ih _ (by omega) _ e1
        have := digit_inj (Nat.mod_lt _ (by decide)) (Nat.mod_lt _ (by decide)) (by simpa using e2)
        omega
      · rw [decL_of h1, decL_small h2] at h
        have hl := congrArg List.length h
        have hp := List.length_pos_iff.2 (dec_ne (n / 10))
        rw [List.length_append] at hl
        simp only [List.length_cons, List.length_nil] at hl
        omega
    · by_cases h2 : 9 < m
      · rw [decL_small h1, decL_of h2] at h
        have hl := congrArg List.length h
        have hp := List.length_pos_iff.2 (dec_ne (m / 10))
        rw [List.length_append] at hl
        simp only [List.length_cons, List.length_nil] at hl
        omega
      · rw [decL_small h1, decL_small h2] at h
        have := digit_inj (Nat.mod_lt n (by decide)) (Nat.mod_lt m (by decide)) (by simpa using h)
        omega
theorem dec_not {c : UInt8} (hc : ¬ (48 ≤ c.toNat ∧ c.toNat ≤ 57)) (n : Nat) : c ∉ decL n := fun h => hc (dec_byte n c h)
theorem hex_byte (n : Nat) : ∀ b : UInt8, b ∈ hexL n → (48 ≤ b.toNat ∧ b.toNat ≤ 57) ∨ (97 ≤ b.toNat ∧ b.toNat ≤ 102) := by
  induction n using Nat.strongRecOn with
  | ind n ih =>
    intro b hb
    unfold hexL at hb
    split at hb
    · rcases List.mem_append.1 hb with hb | hb
      · exact ih _ (by omega) b hb
      · obtain rfl := List.mem_singleton.1 hb
        unfold hexDig
        split
        · rw [toNat_ofNat]; omega
        · rw [toNat_ofNat]; omega
    · cases hb
/-- A byte that no text has. -/
def NoB (c : UInt8) : Prop := c.toNat < 46 ∨ c.toNat = 47
theorem text_not {c : UInt8} (hc : NoB c) (a : Ad) : c ∉ a.text := by
  have hd : ∀ n, c ∉ decL n := fun n => dec_not (by unfold NoB at hc; omega) n
  unfold Ad.text
  split
  · intro h
    rcases List.mem_append.1 h with h | h
    · simp only [preL, List.mem_cons, List.not_mem_nil, or_false] at h
      rcases h with rfl | rfl | rfl | rfl | rfl | rfl | rfl | rfl | rfl | rfl <;> revert hc <;> unfold NoB <;> decide
    · have := hex_byte _ c h
      unfold NoB at hc
      omega
  · intro h
    have h46 : c ≠ 46 := by rintro rfl; revert hc; unfold NoB; decide
    unfold quadL at h
    simp only [List.mem_append, List.mem_cons] at h
    rcases h with h | h | h | h | h | h | h
    · exact hd _ h
    · exact h46 h
    · exact hd _ h
    · exact h46 h
    · exact hd _ h
    · exact h46 h
    · exact hd _ h
theorem quad_inj {n m : Nat} (hn : n < 4294967296) (hm : m < 4294967296) (h : quadL n = quadL m) : n = m := by
  unfold quadL at h
  have d46 : ∀ k, (46 : UInt8) ∉ decL k := fun k => dec_not (by decide) k
  obtain ⟨e1, h⟩ := split_at (d46 _) (d46 _) h
  obtain ⟨e2, h⟩ := split_at (d46 _) (d46 _) h
  obtain ⟨e3, e4⟩ := split_at (d46 _) (d46 _) h
  have := dec_inj _ _ e1
  have := dec_inj _ _ e2
  have := dec_inj _ _ e3
  have := dec_inj _ _ e4
  omega
theorem text_inj {a b : Ad} (ha : a.ok) (hb : b.ok) (h : a.text = b.text) : a = b := by
  obtain ⟨s, n⟩ := a
  obtain ⟨t, m⟩ := b
  unfold Ad.ok at ha hb
  unfold Ad.text at h
  have hq : ∀ k, (58 : UInt8) ∉ quadL k := by
    intro k hk
    have hd : ∀ n, (58 : UInt8) ∉ decL n := fun n => dec_not (by decide) n
    unfold quadL at hk
    simp only [List.mem_append, List.mem_cons] at hk
    rcases hk with h | h | h | h | h | h | h
    · exact hd _ h
    · revert h; decide
    · exact hd _ h
    · revert h; decide
    · exact hd _ h
    · revert h; decide
    · exact hd _ h
  cases s with
  | true =>
    cases t with
    | true =>
      simp only [if_true] at h ha hb
      have e := List.append_cancel_left h
      have h1 := hexN_hexL n (by omega)
      rw [e, hexN_hexL m (by omega)] at h1
      cases h1
      rfl
    | false =>
      simp only [if_true, Bool.false_eq_true, if_false] at h
      exact absurd (by rw [← h]; simp [preL]) (hq m)
  | false =>
    cases t with
    | true =>
      simp only [if_true, Bool.false_eq_true, if_false] at h
      exact absurd (by rw [h]; simp [preL]) (hq n)
    | false =>
      simp only [Bool.false_eq_true, if_false] at h ha hb
      rw [quad_inj ha hb h]

end Go.Proofs.YtnehofekgnbelaaGreatDoor

/-
  Who holds which address, as a map of texts (pure): what is given isn't held; a release strikes what is held by that container.
-/
namespace Go.Proofs.YtnehofekgnbelaaGreatDoor
open Go.RowKit
set_option linter.unusedVariables false

def whoL (id at_ : ByteArray) : List UInt8 := bl id ++ 32 :: bl at_
def holdE (es : List Ent) (l : List UInt8) : Option Ent := es.find? fun e => decide (e.a.text = l)
/-- The map tells what is held. -/
def MapIs {H : Type} (D : DataW H) (es : List Ent) : Prop := Maps.IsMap D ∧ ∀ l z, D.atKey (.string l) z = match holdE es l with | some e => .lit (.string (whoL e.id e.at_)) | none => z
theorem holdE_text {es : List Ent} {l : List UInt8} {e : Ent} (h : holdE es l = some e) : e ∈ es ∧ e.a.text = l := by
  unfold holdE at h
  exact ⟨List.mem_of_find?_eq_some h, of_decide_eq_true (List.find?_some (p := fun e : Ent => decide (e.a.text = l)) h)⟩
theorem holdE_none {es : List Ent} {l : List UInt8} (h : holdE es l = none) {e : Ent} (he : e ∈ es) : e.a.text ≠ l := by
  unfold holdE at h
  rw [List.find?_eq_none] at h
  simpa using h e he
theorem holdE_snoc (es : List Ent) (x : Ent) (l : List UInt8) : holdE (es ++ [x]) l = match holdE es l with | some e => some e | none => if x.a.text = l then some x else none := by
  unfold holdE
  rw [List.find?_append]
  cases es.find? fun e => decide (e.a.text = l) with
  | some e => rfl
  | none =>
    by_cases h : x.a.text = l
    · rw [if_pos h]
      simp [List.find?, h]
    · rw [if_neg h]
      simp [List.find?, h]
theorem mapIs_empty {H : Type} : MapIs (.map [] : DataW H) [] := ⟨Maps.isMap_empty, fun l z => rfl⟩
theorem str_ne {l m : List UInt8} (h : l ≠ m) : (Lit.string l) ≠ .string m := fun e => h (Lit.string.inj e)
theorem MapIs.put {H : Type} {D : DataW H} {es : List Ent} (h : MapIs D es) (x : Ent) (hno : holdE es x.a.text = none) : MapIs (D.put (.string x.a.text) (.lit (.string (whoL x.id x.at_)))) (es ++ [x]) := by
  refine ⟨h.1.put _ _, fun l z => ?_⟩
  rw [holdE_snoc]
  by_cases e : x.a.text = l
  · subst e
    rw [Maps.atKey_put_same h.1 (by trivial), hno]
    simp
  · rw [Maps.atKey_put_other (str_ne (Ne.symm e)), h.2 l z]
    cases holdE es l with
    | some y => rfl
    | none => simp only; rw [if_neg e]
theorem MapIs.again {H : Type} {D : DataW H} {es : List Ent} (h : MapIs D es) {l : List UInt8} {x : Ent} (hx : holdE es l = some x) : MapIs (D.put (.string l) (.lit (.string (whoL x.id x.at_)))) es := by
  refine ⟨h.1.put _ _, fun m z => ?_⟩
  by_cases e : l = m
  · subst e
    rw [Maps.atKey_put_same h.1 (by trivial), hx]
  · rw [Maps.atKey_put_other (str_ne (Ne.symm e)), h.2 m z]

/- A RELEASE -/
/-- On the way: what is struck already is what has come. -/
def LeftMap {H : Type} (D : DataW H) (es : List Ent) (who : List UInt8) (left : Lit → Bool) : Prop :=
  Maps.IsMap D ∧ ∀ l z, D.atKey (.string l) z = match holdE es l with | some e => if whoL e.id e.at_ = who ∧ left (.string l) = false then z else .lit (.string (whoL e.id e.at_)) | none => z
theorem MapIs.start {H : Type} {D : DataW H} {es : List Ent} (h : MapIs D es) (who : List UInt8) : LeftMap D es who (Maps.has D) := by
  refine ⟨h.1, fun l z => ?_⟩
  rw [h.2 l z]
  cases he : holdE es l with
  | none => rfl
  | some e =>
    have : Maps.has D (.string l) = true := Maps.has_true_of_atKey (y := .lit (.string (whoL e.id e.at_))) fun z => by rw [h.2 l z, he]
    simp only
    rw [this, if_neg (by simp)]
theorem sameKey_str (l m : List UInt8) : (Lit.string l).sameKey (.string m) = (l == m) := rfl
theorem LeftMap.stays {H : Type} {D : DataW H} {es : List Ent} {who : List UInt8} {left : Lit → Bool} (h : LeftMap D es who left) (l0 c : List UInt8) (hl : left (.string l0) = true) (hc : ∀ z, D.atKey (.string l0) z = .lit (.string c)) (hne : c ≠ who) : LeftMap D es who (fun z => left z && !z.sameKey (.string l0)) := by
  refine ⟨h.1, fun l z => ?_⟩
  rw [h.2 l z]
  by_cases e : l = l0
  · subst e
    have h1 := h.2 l z
    rw [hc z] at h1
    cases he : holdE es l with
    | none => rfl
    | some x =>
      rw [he] at h1
      simp only at h1 ⊢
      rw [if_neg (by rw [hl]; simp)] at h1
      have h2 := Lit.string.inj (DataW.lit.inj h1)
      rw [if_neg (by rw [hl]; simp), if_neg (by rw [← h2]; exact fun h => hne h.1)]
  · have : (left (.string l) && !(Lit.string l).sameKey (.string l0)) = left (.string l) := by
      rw [sameKey_str, beq_false_of_ne e]
      simp
    simp only [this]
theorem LeftMap.struck {H : Type} {D : DataW H} {es : List Ent} {who : List UInt8} {left : Lit → Bool} (h : LeftMap D es who left) (l0 : List UInt8) (hl : left (.string l0) = true) (hc : ∀ z, D.atKey (.string l0) z = .lit (.string who)) : LeftMap (D.del (.string l0)) es who (fun z => left z && !z.sameKey (.string l0)) := by
  refine ⟨h.1.del _, fun l z => ?_⟩
  by_cases e : l = l0
  · subst e
    rw [Maps.atKey_del_same]
    have h1 := h.2 l z
    rw [hc z] at h1
    cases he : holdE es l with
    | none => rfl
    | some x =>
      rw [he] at h1
      simp only at h1 ⊢
      rw [if_neg (by rw [hl]; simp)] at h1
      have h2 := Lit.string.inj (DataW.lit.inj h1)
      rw [if_pos ⟨h2.symm, by rw [sameKey_str]; simp⟩]
  · rw [Maps.atKey_del_other (str_ne e), h.2 l z]
    have : (left (.string l) && !(Lit.string l).sameKey (.string l0)) = left (.string l) := by
      rw [sameKey_str, beq_false_of_ne e]
      simp
    simp only [this]
/-- No address stands twice. -/
def OnceE (es : List Ent) : Prop := (es.map Ent.a).Nodup
/-- Names without blanks. -/
def WordsE (es : List Ent) : Prop := ∀ e ∈ es, e.a.ok ∧ 32 ∉ bl e.id ∧ 32 ∉ bl e.at_
theorem bl_inj {a b : ByteArray} (h : bl a = bl b) : a = b := by
  unfold bl at h
  exact ByteArray.ext (Array.toList_inj.1 h)
theorem who_iff {e : Ent} {id at_ : ByteArray} (h : 32 ∉ bl e.id) (h' : 32 ∉ bl id) : whoB e.id e.at_ id at_ = true ↔ whoL e.id e.at_ = whoL id at_ := by
  unfold whoB whoL
  rw [Lib.toList_data, Lib.toList_data, Lib.toList_data, Lib.toList_data, Bool.and_eq_true, beq_iff_eq, beq_iff_eq]
  constructor
  · rintro ⟨h1, h2⟩
    show e.id.data.toList ++ 32 :: e.at_.data.toList = id.data.toList ++ 32 :: at_.data.toList
    rw [h1, h2]
  · intro e1
    exact split_at h h' e1
theorem LeftMap.finish {H : Type} {D : DataW H} {es : List Ent} {id at_ : ByteArray} {left : Lit → Bool} (h : LeftMap D es (whoL id at_) left) (hl : ∀ k, left k = false) (ho : OnceE es) (hw : WordsE es) (hid : 32 ∉ bl id) : MapIs D (es.filter fun e => !whoB e.id e.at_ id at_) := by
  refine ⟨h.1, fun l z => ?_⟩
  rw [h.2 l z]
  cases he : holdE es l with
  | none =>
    have : holdE (es.filter fun e => !whoB e.id e.at_ id at_) l = none := by
      unfold holdE
      rw [List.find?_eq_none]
      intro x hx
      simpa using holdE_none he (List.mem_filter.1 hx).1
    rw [this]
  | some x =>
    obtain ⟨hx, hxt⟩ := holdE_text he
    simp only
    by_cases hwho : whoL x.id x.at_ = whoL id at_
    · rw [if_pos ⟨hwho, hl _⟩]
      have : holdE (es.filter fun e => !whoB e.id e.at_ id at_) l = none := by
        unfold holdE
        rw [List.find?_eq_none]
        intro y hy
        obtain ⟨hy1, hy2⟩ := List.mem_filter.1 hy
        rw [decide_eq_true_eq]
        intro hyt
        have ea : y.a = x.a := text_inj (hw y hy1).1 (hw x hx).1 (hyt.trans hxt.symm)
        have : y = x := by
          have hn := ho
          unfold OnceE at hn
          rw [List.Nodup, List.pairwise_map, List.pairwise_iff_getElem] at hn
          obtain ⟨i, hi, rfl⟩ := List.mem_iff_getElem.1 hy1
          obtain ⟨j, hj, rfl⟩ := List.mem_iff_getElem.1 hx
          rcases Nat.lt_trichotomy i j with hlt | rfl | hlt
          · exact absurd ea (hn i j hi hj hlt)
          · rfl
          · exact absurd ea.symm (hn j i hj hi hlt)
        rw [this, (who_iff (hw x hx).2.1 hid).2 hwho] at hy2
        simp at hy2
      rw [this]
    · rw [if_neg (fun h => hwho h.1)]
      have hkeep : (!whoB x.id x.at_ id at_) = true := by
        rw [Bool.not_eq_true', Bool.eq_false_iff]
        exact fun e => hwho ((who_iff (hw x hx).2.1 hid).1 e)
      have : holdE (es.filter fun e => !whoB e.id e.at_ id at_) l = some x := by
        unfold holdE at he ⊢
        rw [List.find?_filter]
        rw [List.find?_eq_some_iff_append] at he
        obtain ⟨_, l1, l2, rfl, hnot⟩ := he
        have hx1 : decide (x.a.text = l) = true := decide_eq_true hxt
        have f : ∀ (p : Ent → Bool), (∀ y ∈ l1, p y = false) → p x = true → (l1 ++ x :: l2).find? p = some x := fun p a1 a2 => by
          rw [List.find?_append, show l1.find? p = none from List.find?_eq_none.2 (fun y hy => by rw [a1 y hy]; decide)]
          simp [List.find?, a2]
        refine f _ ?h1 ?h2
        case h1 =>
          intro y hy
          have := hnot y hy
          simp at this ⊢
          exact fun _ => this
        case h2 =>
          simp only [hkeep, hx1]
          rfl
      rw [this]

/- THE STEPS -/
theorem askR_fact {Rs : List RIn} {al : List Ad} {a b : Ad} {i : Nat} (h : askR Rs al a = some (i, b)) : b ∉ al := by
  unfold askR at h
  cases hf : Rs.findIdx? fun R => inR R a with
  | none => rw [hf] at h; cases h
  | some j =>
    rw [hf] at h
    simp only at h
    split at h
    · cases h
    · split at h
      · cases h
      · rename_i hn
        cases h
        exact fun hm => hn (hasA_iff.2 hm)
theorem freeR_fact {Rs : List RIn} {al mine : List Ad} {L : List (Nat × Ad)} {p : Nat × Ad} (h : freeR Rs al mine L = some p) : p.2 ∉ al := by
  unfold freeR at h
  split at h
  · cases h
  · have := List.find?_some (p := fun p : Nat × Ad => !hasA al p.2) h
    intro hm
    rw [hasA_iff.2 hm] at this
    simp at this
theorem getR_fact {Rs : List RIn} {rd : Option Ad → List (Nat × Ad)} (hrd : Rd Rs rd) {d : Desk} {id at_ : ByteArray} {ad : Option Ad} {i : Nat} {a : Ad} (h : getR Rs rd d id at_ ad = some (i, a)) :
    a ∉ d.ads ∧ (∃ R, Rs[i]? = some R ∧ inR R a = true) ∧ ∀ b, ad = some b → a = b := by
  refine ⟨?_, getR_in hrd h, fun b hb => ?_⟩
  · unfold getR at h
    cases ad with
    | none => exact freeR_fact (p := (i, a)) h
    | some b => exact askR_fact h
  · subst hb
    unfold getR at h
    exact (askR_in h).1
/-- A Get: nothing, and all is as before; or an address that isn't held, of a range, the one asked for. -/
theorem give_get {Rs : List RIn} {rd : Option Ad → List (Nat × Ad)} (hrd : Rd Rs rd) (hg : ∀ R ∈ Rs, Good R) (d : Desk) (o : OpIn) (hk : o.kind = 0) :
    ((stepD Rs rd d o).1.ok = false ∧ (stepD Rs rd d o).2 = d) ∨
    ∃ a R x, (stepD Rs rd d o).1.ok = true ∧ (stepD Rs rd d o).1.addr = a.text ++ 47 :: x ∧ (stepD Rs rd d o).2.held = d.held ++ [⟨a, o.id, o.at_⟩] ∧ a ∉ d.held.map Ent.a ∧ R ∈ Rs ∧ inR R a = true ∧ a.ok ∧ ∀ b, o.ad = some b → a = b := by
  unfold stepD
  rw [hk]
  cases h : getR Rs rd d o.id o.at_ o.ad with
  | none => exact .inl ⟨rfl, rfl⟩
  | some p =>
    obtain ⟨i, a⟩ := p
    obtain ⟨h1, ⟨R, h2, h3⟩, h4⟩ := getR_fact hrd h
    refine .inr ⟨a, R, decL (8 * a.width - R.free), ?_, ?_, rfl, h1, List.mem_of_getElem? h2, h3, (hg R (List.mem_of_getElem? h2)).ads h3, h4⟩
    · unfold givR
      simp only [h2]
    · unfold givR
      simp only [h2]
      rfl
structure DeskOn (d : Desk) : Prop where
  once : OnceE d.held
  words : WordsE d.held
theorem DeskOn.got {d : Desk} (h : DeskOn d) {a : Ad} {id at_ : ByteArray} {es : List Ent} {la : Option Ad} (he : es = d.held ++ [⟨a, id, at_⟩]) (h1 : a ∉ d.held.map Ent.a) (h2 : a.ok) (h3 : 32 ∉ bl id) (h4 : 32 ∉ bl at_) : DeskOn ⟨es, la⟩ := by
  subst he
  refine ⟨?_, fun e he => ?_⟩
  · show ((d.held ++ [(⟨a, id, at_⟩ : Ent)]).map Ent.a).Nodup
    rw [List.map_append]
    refine List.pairwise_append.2 ⟨h.once, List.pairwise_singleton _ _, fun x hx y hy => ?_⟩
    obtain rfl : y = a := by simpa using hy
    exact fun e => h1 (e ▸ hx)
  · rcases List.mem_append.1 he with he | he
    · exact h.words e he
    · obtain rfl := List.mem_singleton.1 he
      exact ⟨h2, h3, h4⟩
theorem DeskOn.filter {d : Desk} (h : DeskOn d) (p : Ent → Bool) : DeskOn ⟨d.held.filter p, d.last⟩ := by
  refine ⟨?_, fun e he => h.words e (List.mem_filter.1 he).1⟩
  have := h.once
  unfold OnceE at this ⊢
  rw [List.Nodup, List.pairwise_map] at this ⊢
  exact this.filter _
theorem DeskOn.step {Rs : List RIn} {rd : Option Ad → List (Nat × Ad)} (hrd : Rd Rs rd) (hg : ∀ R ∈ Rs, Good R) {d : Desk} (h : DeskOn d) {o : OpIn} (ho : OpFit o) : DeskOn (stepD Rs rd d o).2 := by
  by_cases hk : o.kind = 0
  · rcases give_get hrd hg d o hk with ⟨_, e⟩ | ⟨a, R, x, _, _, e, h1, _, _, h2, _⟩
    · rw [e]; exact h
    · have := DeskOn.got (la := (stepD Rs rd d o).2.last) h e h1 h2 ho.s1 ho.s2
      exact this
  · by_cases hk1 : o.kind = 1
    · have e : (stepD Rs rd d o).2 = ⟨d.held.filter fun e => !whoB e.id e.at_ o.id o.at_, d.last⟩ := by unfold stepD; rw [hk1]; rfl
      rw [e]
      exact h.filter _
    · have hk2 := ho.ok.k
      have e : (stepD Rs rd d o).2 = d := by
        unfold stepD
        rw [show o.kind = 2 by omega]
        rfl
      rw [e]
      exact h
theorem res_on {d : Desk} (h : DeskOn d) {a : Ad} (ha : a.ok) {id at_ : ByteArray} (h3 : 32 ∉ bl id) (h4 : 32 ∉ bl at_) : DeskOn (d.res a id at_) := by
  unfold Desk.res
  split
  · exact h
  · rename_i hn
    exact DeskOn.got (la := some a) h rfl (fun hm => hn (hasA_iff.2 hm)) ha h3 h4
theorem hold_not {d : Desk} (h : DeskOn d) {a : Ad} (ha : a.ok) (hn : a ∉ d.held.map Ent.a) : holdE d.held a.text = none := by
  cases he : holdE d.held a.text with
  | none => rfl
  | some x =>
    obtain ⟨hx, hxt⟩ := holdE_text he
    exact absurd (List.mem_map.2 ⟨x, hx, text_inj (h.words x hx).1 ha hxt⟩) hn
/-- Taken: one address more, or held already by the other container. -/
def OtherE (es : List Ent) : Prop := ∀ e ∈ es, e.id = otherB ∧ e.at_ = otherB
theorem res_map {H : Type} {D : DataW H} {d : Desk} (h : DeskOn d) (hm : MapIs D d.held) (ho : OtherE d.held) {a : Ad} (ha : a.ok) : MapIs (D.put (.string a.text) (.lit (.string (whoL otherB otherB)))) (d.res a otherB otherB).held ∧ OtherE (d.res a otherB otherB).held := by
  unfold Desk.res
  split
  · rename_i hn
    obtain ⟨x, hx, hxa⟩ := List.mem_map.1 (hasA_iff.1 hn)
    cases he : holdE d.held a.text with
    | none => exact absurd (by rw [hxa]) (holdE_none he hx)
    | some y =>
      obtain ⟨hy, _⟩ := holdE_text he
      obtain ⟨e1, e2⟩ := ho y hy
      have := hm.again he
      rw [e1, e2] at this
      exact ⟨this, ho⟩
  · rename_i hn
    refine ⟨hm.put ⟨a, otherB, otherB⟩ (hold_not h ha fun hm => hn (hasA_iff.2 hm)), fun e he => ?_⟩
    rcases List.mem_append.1 he with he | he
    · exact ho e he
    · obtain rfl := List.mem_singleton.1 he
      exact ⟨rfl, rfl⟩

theorem tkDesk_on (al : List Ad) (h : ∀ a ∈ al, a.ok) : DeskOn (tkDesk al) ∧ OtherE (tkDesk al).held := by
  suffices H : ∀ (al : List Ad) (d : Desk), (∀ a ∈ al, a.ok) → DeskOn d → OtherE d.held → DeskOn (al.foldl (fun d a => d.res a otherB otherB) d) ∧ OtherE (al.foldl (fun d a => d.res a otherB otherB) d).held from
    H al ⟨[], none⟩ h ⟨List.Pairwise.nil, fun e he => (by cases he)⟩ (fun e he => (by cases he))
  intro al
  induction al with
  | nil => intro d _ h1 h2; exact ⟨h1, h2⟩
  | cons a al ih =>
    intro d h h1 h2
    have ha := h a (by simp)
    refine ih (d.res a otherB otherB) (fun b hb => h b (by simp [hb])) (res_on h1 ha (by decide) (by decide)) ?_
    unfold Desk.res
    split
    · exact h2
    · intro e he
      rcases List.mem_append.1 he with he | he
      · exact h2 e he
      · obtain rfl := List.mem_singleton.1 he
        exact ⟨rfl, rfl⟩
theorem runD_on {Rs : List RIn} {rd : Option Ad → List (Nat × Ad)} (hrd : Rd Rs rd) (hg : ∀ R ∈ Rs, Good R) {d : Desk} (h : DeskOn d) (os : List OpIn) (ho : ∀ o ∈ os, OpFit o) : DeskOn (runD Rs rd d os).2 := by
  suffices H : ∀ (os : List OpIn) (p : List Giv × Desk), (∀ o ∈ os, OpFit o) → DeskOn p.2 → DeskOn (os.foldl (runF Rs rd) p).2 from H os ([], d) ho h
  intro os
  induction os with
  | nil => intro p _ h; exact h
  | cons o os ih => intro p ho h; exact ih _ (fun q hq => ho q (by simp [hq])) (h.step hrd hg (ho o (by simp)))
theorem run_pre (Rs : List RIn) (rd : Option Ad → List (Nat × Ad)) : ∀ (os : List OpIn) (p : List Giv × Desk) (i : Nat), i < p.1.length → (os.foldl (runF Rs rd) p).1[i]? = p.1[i]?
  | [], p, i, _ => rfl
  | o :: os, p, i, h => by
    rw [List.foldl_cons, run_pre Rs rd os _ i (by simp [runF]; omega)]
    show (p.1 ++ [_])[i]? = _
    rw [List.getElem?_append_left h]
theorem run_at (Rs : List RIn) (rd : Option Ad → List (Nat × Ad)) : ∀ (os : List OpIn) (p : List Giv × Desk) (k : Nat) (o : OpIn), os[k]? = some o → (os.foldl (runF Rs rd) p).1[p.1.length + k]? = some (stepD Rs rd ((os.take k).foldl (runF Rs rd) p).2 o).1
  | [], p, k, o, h => by cases h
  | x :: os, p, 0, o, h => by
    obtain rfl : x = o := by simpa using h
    rw [List.foldl_cons, run_pre Rs rd os _ _ (by simp [runF])]
    show (p.1 ++ [(stepD Rs rd p.2 x).1])[p.1.length + 0]? = _
    simp
  | x :: os, p, k + 1, o, h => by
    have := run_at Rs rd os (runF Rs rd p x) k o (by simpa using h)
    rw [List.foldl_cons, List.take_succ_cons, List.foldl_cons]
    have e : (runF Rs rd p x).1.length + k = p.1.length + (k + 1) := by simp [runF]; omega
    rw [e] at this
    exact this
theorem runD_at (Rs : List RIn) (rd : Option Ad → List (Nat × Ad)) (d : Desk) (os : List OpIn) (k : Nat) (o : OpIn) (h : os[k]? = some o) :
    (runD Rs rd d os).1[k]? = some (stepD Rs rd (runD Rs rd d (os.take k)).2 o).1 ∧ (runD Rs rd d (os.take (k + 1))).2 = (stepD Rs rd (runD Rs rd d (os.take k)).2 o).2 := by
  refine ⟨?_, ?_⟩
  · have := run_at Rs rd os ([], d) k o h
    simpa [runD] using this
  · have e : os.take (k + 1) = os.take k ++ [o] := by
      obtain ⟨hk, e⟩ := List.getElem?_eq_some_iff.1 h
      rw [List.take_succ_eq_append_getElem hk, e]
    rw [e, runD_snoc]
    rfl

end Go.Proofs.YtnehofekgnbelaaGreatDoor

/-
  laws.zzFits3, zzFits5, zzFits4.
-/
namespace Go.Proofs.YtnehofekgnbelaaGreatDoor
open Go.RowKit
set_option linter.unusedVariables false

theorem zz3_none (a : Option Addr) (cap : Nat) (w : World) :
    Calls Tryz.prog 14 #[.slice a 0 cap] w fun e w' => e = .returned (.bool true) ∧ w = w' := by
  go_enter Tryz.func14, Tryz.ntmps14
  go_wp2
  refine wp_loop_rounds 1 ?_
  rw [rounds_succ]
  go_wp2
  go_ret
  exact ⟨rfl, rfl⟩

/-- zzFits3 answers; if true the list is short and so are its texts. -/
def zz3 (ss : List ByteArray) : Bool := decide ((ss.length : Int) ≤ 2147483647) && ss.all fun s => decide ((s.size : Int) ≤ 2147483647)

set_option maxHeartbeats 400000 in
theorem zz3_some (b off : Nat) (n cap : Nat) (ss : List ByteArray) (w : World) (hn : ss.length = n) (hm : n ≤ 9223372036854775807)
    (hc : ∀ i, i < n → w.cell? ⟨b, off + i, none⟩ = some (.string (ss.getD i ByteArray.empty))) :
    Calls Tryz.prog 14 #[.slice (some ⟨b, off, none⟩) n cap] w fun e w' => e = .returned (.bool (zz3 ss)) ∧ w = w' := by
  have HN := Lib.hid hn
  have HC := Lib.hid hc
  clear hn hc
  by_cases hbig : 2147483647 < (n : Int)
  · go_enter Tryz.func14, Tryz.ntmps14
    go_wp2
    go_ret
    exact ⟨ret_bool (by simp only [zz3]; rw [decide_eq_false (by rw [HN.out]; omega)]; rfl), rfl⟩
  go_enter Tryz.func14, Tryz.ntmps14
  go_wp2
  go_loop [10] (fun i => ∃ k : Nat, k ≤ n ∧ i = .int .i64 k ∧ Hid (∀ j, j < k → ((ss.getD j ByteArray.empty).size : Int) ≤ 2147483647)) (fun i => n - (intOf i).toNat)
  case atStart => exact ⟨0, Nat.zero_le _, rfl, fun j hj => by omega⟩
  case round =>
    obtain ⟨k, hk, rfl, hall⟩ := hrel
    by_cases hlt : k < n
    · have hcell := HC.out k hlt
      generalize hx : ss.getD k ByteArray.empty = x at hcell
      have HX := Lib.hid hx
      clear hx
      by_cases hl : 2147483647 < (x.size : Int)
      · go_wp2
        go_ret
        refine ⟨ret_bool ?_, rfl⟩
        have h2 : (ss.all fun s => decide ((s.size : Int) ≤ 2147483647)) = false := by
          rw [List.all_eq_false]
          have hk' : k < ss.length := by rw [HN.out]; exact hlt
          refine ⟨ss.getD k ByteArray.empty, ?_, by rw [HX.out]; simp; omega⟩
          rw [List.getD_eq_getElem?_getD, List.getElem?_eq_getElem hk']
          exact List.getElem_mem hk'
        simp only [zz3]
        rw [h2, Bool.and_false]
      · go_wp2
        go_round
        case rel => exact ⟨k + 1, by omega, by go_num, fun j hj => by
          by_cases hjk : j = k
          · rw [hjk, HX.out]; omega
          · exact hall.out j (by omega)⟩
        case measure => simp [intOf]; omega
    · obtain rfl : k = n := by omega
      go_wp2
      go_ret
      refine ⟨ret_bool ?_, rfl⟩
      have h2 : (ss.all fun s => decide ((s.size : Int) ≤ 2147483647)) = true := by
        rw [List.all_eq_true]
        intro s hs
        obtain ⟨j, hj, rfl⟩ := List.getElem_of_mem hs
        have := hall.out j (by rw [← HN.out]; exact hj)
        rw [List.getD_eq_getElem?_getD, List.getElem?_eq_getElem hj] at this
        simpa using this
      simp only [zz3]
      rw [h2, decide_eq_true (by rw [HN.out]; omega)]
      rfl

theorem zz3_any (v : Value) (ss : List ByteArray) (w : World) (h : SlAt w v (strVals ss)) :
    Calls Tryz.prog 14 #[v] w fun e w' => e = .returned (.bool (zz3 ss)) ∧ w = w' := by
  rcases h.out with ⟨h0, ao, cap, rfl, _⟩ | ⟨b, off, cap, rfl, hb, hl, hm, h0, hc⟩
  · have hs : ss = [] := by cases ss; rfl; cases h0
    subst hs
    exact zz3_none ao cap w
  · rw [strVals_length] at hl hc ⊢
    refine zz3_some b off ss.length cap ss w rfl (by unfold maxLen at hm; omega) fun i hi => ?_
    rw [hc i hi, strVals_getD ss i hi]

set_option maxRecDepth 100000
set_option maxHeartbeats 1000000
theorem zz3_fit {ss : List ByteArray} (h : zz3 ss = true) : ∀ s ∈ ss, s.size ≤ 2147483647 := by
  unfold zz3 at h
  rw [Bool.and_eq_true, List.all_eq_true] at h
  intro s hs
  have := of_decide_eq_true (h.2 s hs)
  omega

def Fits5Post (w : World) (s0 s1 s2 : ByteArray) (e : Ending) (w' : World) : Prop :=
  ∃ ok : Bool, e = .returned (.bool ok) ∧ (ok = true → s0.size ≤ 2147483647 ∧ s1.size ≤ 2147483647 ∧ s2.size ≤ 2147483647) ∧ Below w.heap.size w w'
theorem fits5_any (kind : Int) (s0 s1 s2 : ByteArray) (w : World) :
    Calls Tryz.prog 31 #[.agg #[.int .i64 kind, .string s0, .string s1, .string s2]] w (Fits5Post w s0 s1 s2) := by
  have HB := Lib.hid ((Below.refl w.heap.size w).alloc (Nat.le_refl _) (.cells #[.int .i64 kind, .string s0, .string s1, .string s2] 45))
  by_cases h0 : s0.size ≤ 2147483647
  rotate_left
  · have t0 : decide ((2147483647 : Int) < s0.size) = true := decide_eq_true (by omega)
    clear h0
    go_enter Tryz.func31, Tryz.ntmps31
    go_wp2_with fail
    go_ret
    exact ⟨false, rfl, (fun h => by cases h), HB.out⟩
  have H0 := Lib.hid h0
  have t0 : decide ((2147483647 : Int) < s0.size) = false := decide_eq_false (by omega)
  by_cases h1 : s1.size ≤ 2147483647
  rotate_left
  · have t1 : decide ((2147483647 : Int) < s1.size) = true := decide_eq_true (by omega)
    clear h0 h1
    go_enter Tryz.func31, Tryz.ntmps31
    go_wp2_with fail
    go_ret
    exact ⟨false, rfl, (fun h => by cases h), HB.out⟩
  have H1 := Lib.hid h1
  have t1 : decide ((2147483647 : Int) < s1.size) = false := decide_eq_false (by omega)
  by_cases h2 : s2.size ≤ 2147483647
  rotate_left
  · have t2 : decide ((2147483647 : Int) < s2.size) = true := decide_eq_true (by omega)
    clear h0 h1 h2
    go_enter Tryz.func31, Tryz.ntmps31
    go_wp2_with fail
    go_ret
    exact ⟨false, rfl, (fun h => by cases h), HB.out⟩
  have H2 := Lib.hid h2
  have t2 : decide ((2147483647 : Int) < s2.size) = false := decide_eq_false (by omega)
  clear h0 h1 h2
  go_enter Tryz.func31, Tryz.ntmps31
  go_wp2_with fail
  go_ret
  exact ⟨true, rfl, (fun _ => ⟨H0.out, H1.out, H2.out⟩), HB.out⟩

def FitsOPost (w : World) (xs : List OpT) (e : Ending) (w' : World) : Prop :=
  ∃ ok : Bool, e = .returned (.bool ok) ∧ (ok = true → xs.length ≤ 2147483647 ∧ ∀ (j : Nat) (x : OpT), xs[j]? = some x → x.fits) ∧ Below w.heap.size w w'
theorem fits4_any (ao : Option Addr) (cap : Nat) (xs : List OpT) (w : World) (h : OpsT w ao xs) :
    Calls Tryz.prog 15 #[.slice ao xs.length cap] w (FitsOPost w xs) := by
  have H := Lib.hid h
  clear h
  by_cases hn : xs.length ≤ 2147483647
  rotate_left
  · have t0 : decide ((2147483647 : Int) < xs.length) = true := decide_eq_true (by omega)
    go_enter Tryz.func15, Tryz.ntmps15
    go_wp2_with fail
    go_ret
    exact ⟨false, rfl, (fun h => by cases h), Below.refl _ _⟩
  have t0 : decide ((2147483647 : Int) < xs.length) = false := decide_eq_false (by omega)
  go_enter Tryz.func15, Tryz.ntmps15
  go_wp2_with fail
  go_loopw [10] (fun i wr => ∃ k : Nat, i = .int .i64 k ∧ k ≤ xs.length ∧ Hid ((∀ (j : Nat) (x : OpT), j < k → xs[j]? = some x → x.fits) ∧ Below w.heap.size w wr)) (fun i _ => xs.length - (intOf i).toNat)
  case atStart => exact ⟨0, rfl, by omega, Lib.hid ⟨fun j x hj => absurd hj (by omega), Below.refl _ _⟩⟩
  case round =>
    obtain ⟨k, rfl, hk, hr⟩ := hrel
    by_cases hlt : k < xs.length
    · have tk : decide ((k : Int) < xs.length) = true := decide_eq_true (by omega)
      have hx : xs[k]? = some xs[k] := List.getElem?_eq_getElem hlt
      obtain ⟨b, off, rfl, hbl, c0, c1, c2, c3⟩ := H.out.on hr.out.2 k _ hx
      have HX := Lib.hid hx
      clear hx
      generalize xs[k] = x at *
      go_wp2_with fail
      refine (fits5_any x.kind x.id x.at_ x.asked _).mono ?_
      rintro e w2 ⟨ok, rfl, hf, hb2⟩
      have HF := Lib.hid hf
      have HB := Lib.hid (below_tr (hr.out.2.alloc hr.out.2.size _) hb2)
      clear hf hb2 c0 c1 c2 c3
      cases ok with
      | false =>
        go_wp2_with fail
        go_ret
        exact ⟨false, rfl, (fun h => by cases h), HB.out⟩
      | true =>
        go_wp2_with fail
        go_roundw
        case rel =>
          refine ⟨k + 1, by simp, by omega, Lib.hid ⟨fun j y hj hy => ?_, HB.out⟩⟩
          by_cases hjk : j = k
          · subst hjk
            rw [HX.out] at hy
            cases hy
            exact HF.out (by trivial)
          · exact hr.out.1 j y (by omega) hy
        case measure => simp [intOf]; omega
    · have tk : decide ((k : Int) < xs.length) = false := decide_eq_false (by omega)
      go_wp2_with fail
      go_ret
      exact ⟨true, rfl, (fun _ => ⟨hn, fun j x hx => hr.out.1 j x (by have := (List.getElem?_eq_some_iff.1 hx).1; omega) hx⟩), hr.out.2⟩

end Go.Proofs.YtnehofekgnbelaaGreatDoor

/-
  Texts put together: AlAsk, Ope
-/
import Derived.Test.YtnehofekgnbelaaGreatDoorY43
import Derived.Test.YtnehofekgnbelaaGreatDoorY42
import Derived.Test.YtnehofekgnbelaaGreatDoorM1
import Derived.Test.YtnehofekgnbelaaGreatDoorY44
import Derived.Deep.Slices
import Derived.Deep.Fields
import Derived.ChangeSame
import Derived.Handy
import Derived.Carry
import Derived.Lib.SmallJoins
import Derived.Test.YtnehofekgnbelaaGreatDoorY31
import Derived.Test.YtnehofekgnbelaaGreatDoorM9
import Derived.Maps.Views
namespace Go.Proofs.YtnehofekgnbelaaGreatDoor
open Go.RowKit
set_option linter.unusedVariables false
set_option maxRecDepth 100000
set_option maxHeartbeats 1000000
theorem zcA (ao : Option Addr) (cap0 : Nat) (xs : List Tx) (vt : Value) (ts : List ByteArray) (last : ByteArray) (ys : List OpT) (Rs : List RIn) (al : List Ad) (la : Option Ad) (os0 : List OpIn) (hA : Asked xs ts last ys Rs al la os0)
  (oo : Option Addr) (oc : Nat) (os : List OpIn) (w : World) (h : RgsV w ao xs) (ht : SlAt w vt (strVals ts)) (hops : OpsV w oo os) (hfit : ∀ o ∈ os, OpFit o) (hol : os.length ≤ 100) (htab : Tab w) :
  Calls Tryz.prog 18 #[.slice ao xs.length cap0, vt, .string last, .slice oo os.length oc] w
   (zeD w (runD Rs (rdL Rs) ⟨(zJ al).held, la⟩ os).1 (sortL ((runD Rs (rdL Rs) ⟨(zJ al).held, la⟩ os).2.held.map leftB))) := by
 have hset := (zeA hA.size).1
 have hi := zdA hA.all hset
 obtain ⟨hne, hg⟩ := zcZ hA.all hi
 exact zeE ao cap0 xs Rs vt ts al last la oo oc os (rdL Rs) w h hA.all (by have := hA.l4; omega) hi ht hA.tk (by have := hA.l100; omega) hA.last hops hfit hol htab (rd_ok Rs hg (zlJ hg hi) hne)
end Go.Proofs.YtnehofekgnbelaaGreatDoor
namespace Go.Proofs.YtnehofekgnbelaaGreatDoor
open Go.ChangeShapes Go.WideShapes Go.ChangeAt Go.RowKit
open Go.WideMaps Go.WideElems
open Go.ChangeMaps (open_string)
set_option linter.unusedVariables false
theorem zlX : Tryz.prog.readableRec 9 = true := by kernel_rfl
theorem inStr : 9 < Tryz.prog.types.size := of_decide_eq_true (by kernel_rfl)
theorem zlY : Tryz.prog.readableRec 28 = true := by kernel_rfl
theorem inRgs : 28 < Tryz.prog.types.size := of_decide_eq_true (by kernel_rfl)
theorem zlZ : Tryz.prog.readableRec 30 = true := by kernel_rfl
theorem inOps : 30 < Tryz.prog.types.size := of_decide_eq_true (by kernel_rfl)
theorem zkT : Tryz.prog.readableRec 29 = true := by kernel_rfl
theorem zmW : 29 < Tryz.prog.types.size := of_decide_eq_true (by kernel_rfl)
theorem zkU : Tryz.prog.cellsOf 9 = 1 := by kernel_rfl
section
open Go.Deep
variable {H : Type} {enc : TypeId × Value → H} {P : Program} {w : World} {base : Nat} {spare : Nat → Bool} {held : Bool}
theorem zeF {t e : TypeId} {fs : Array Field} {fuel : Nat} {cs : List Value} {x : DataW H × List MemPlace} (ht : P.underlying t = some (.slice e)) (he : P.underlying e = some (.struct fs))
  (hone : oneCellFields P fs = true) (hC : P.cellsOf e = fs.size) (h : DataW.trod enc P w base spare held fuel t cs = some x) :
  cs = [.slice none 0 0] ∨ ∃ (a : Addr) (len cap : Nat), cs = [.slice (some a) len cap] ∧
   ∀ i, i < len → ∃ n, ∀ (j : Nat) (f : Field), fs[j]? = some f → ∃ (v : Value) (y : DataW H × List MemPlace), w.cell? (a.add (i * fs.size + j)) = some v ∧ DataW.trod enc P w base spare held n f.type [v] = some y := by
 rcases open_slice ht h with ⟨h0, _⟩ | ⟨a, len, cap, m, n, D, Pl, hcs, hb, hl, hm, hmm, hx, hi⟩
 ·exact .inl h0
 ·refine .inr ⟨a, len, cap, hcs, fun i him => ?_⟩
  obtain ⟨cs', hc, ht'⟩ := hi i (by split at hmm <;> omega)
  rw [hC] at hc
  obtain ⟨ys, n', hn', hy, hlen, hyl, hf⟩ := DataW.trod_struct he ht'
  obtain ⟨_, hcl, hat⟩ := World.cells?_some hc
  refine ⟨n', fun j f hj => ?_⟩
  obtain ⟨ho, hk⟩ := hone_of hone j f hj
  have hjl : j < fs.size := (Array.getElem?_eq_some_iff.1 hj).1
  have hcell := hat j hjl
  have hv : cs'[j]? = some (cs'[j]'(by omega)) := List.getElem?_eq_getElem (by omega)
  have h1 := hf j f hj
  rw [ho, hk] at h1
  have hone' : (cs'.drop j).take 1 = [cs'[j]'(by omega)] := by
   rw [List.drop_eq_getElem_cons (by omega)]
   rfl
  rw [hone'] at h1
  have hys : ys[j]? = some (ys[j]'(by omega)) := List.getElem?_eq_getElem (by omega)
  refine ⟨_, _, ?_, h1.trans hys⟩
  rw [← Go.Deep.add_add, hcell, hv]
set_option maxRecDepth 100000
theorem ziM {α : Type} {Q : Nat → α → Prop} (len : Nat) (h : ∀ i, i < len → ∃ x, Q i x) : ∃ xs : List α, xs.length = len ∧ ∀ i x, xs[i]? = some x → Q i x := by
 induction len with
 | zero => exact ⟨[], rfl, fun i x hx => by cases hx⟩
 | succ n ih =>
  obtain ⟨xs, hl, hx⟩ := ih (fun i hi => h i (by omega))
  obtain ⟨y, hy⟩ := h n (by omega)
  refine ⟨xs ++ [y], by simp [hl], fun i x hi => ?_⟩
  by_cases e : i < xs.length
  ·rw [List.getElem?_append_left e] at hi; exact hx i x hi
  ·have := (List.getElem?_eq_some_iff.1 hi).1
   simp at this
   obtain rfl : i = xs.length := by omega
   rw [List.getElem?_append_right (Nat.le_refl _)] at hi
   simp at hi
   subst hi
   rw [hl]
   exact hy
theorem zeZ {r : Reach} {b0 : Nat} {v : Value} {d : DataW H} {p : List MemPlace} (hv : Value.okWide Tryz.prog w r b0 28 v) (h : DataW.Trod enc Tryz.prog w base spare held 28 v d p) :
  ∃ (ao : Option Addr) (cap : Nat) (xs : List Tx), v = .slice ao xs.length cap ∧ RgsV w ao xs := by
 obtain ⟨a1, len, cap, rfl⟩ := okWide_slice Tryz.underlying28 hv
 obtain ⟨fuel, hf⟩ := h
 rcases zeF Tryz.underlying28 Tryz.underlying23 (by kernel_rfl) (by kernel_rfl) hf with hcs | ⟨a, len', cap', hcs, hrow⟩
 ·have hv : Value.slice a1 len cap = .slice none 0 0 := by simpa [Value.cells] using hcs
  exact ⟨none, 0, [], hv, fun i x hx => by cases hx⟩
 ·have hv : Value.slice a1 len cap = .slice (some a) len' cap' := by simpa [Value.cells] using hcs
  obtain ⟨xs, hl, hxs⟩ := ziM (Q := fun i (x : Tx) => ∃ b off, a = ⟨b, off, none⟩ ∧ b < w.heap.size ∧ w.cell? ⟨b, off + i * 4, none⟩ = some (.string x.a) ∧ w.cell? ⟨b, off + i * 4 + 1, none⟩ = some (.string x.b) ∧ w.cell? ⟨b, off + i * 4 + 2, none⟩ = some (.string x.c) ∧ w.cell? ⟨b, off + i * 4 + 3, none⟩ = some (.string x.d)) len' (fun i hi => by
   obtain ⟨n, hfs⟩ := hrow i hi
   obtain ⟨u0, y0, c0, k0⟩ := hfs 0 _ rfl
   obtain ⟨u1, y1, c1, k1⟩ := hfs 1 _ rfl
   obtain ⟨u2, y2, c2, k2⟩ := hfs 2 _ rfl
   obtain ⟨u3, y3, c3, k3⟩ := hfs 3 _ rfl
   obtain ⟨s0, e0, _, _⟩ := DataW.trod_string Tryz.underlying9 k0
   obtain ⟨s1, e1, _, _⟩ := DataW.trod_string Tryz.underlying9 k1
   obtain ⟨s2, e2, _, _⟩ := DataW.trod_string Tryz.underlying9 k2
   obtain ⟨s3, e3, _, _⟩ := DataW.trod_string Tryz.underlying9 k3
   obtain ⟨n0, hf0⟩ := hrow 0 (by omega)
   obtain ⟨z, _, cz, _⟩ := hf0 0 _ rfl
   have hs := spot_none_of_cell cz
   clear cz hf0
   obtain ⟨b, off, sp⟩ := a
   simp [Addr.add] at hs
   subst hs
   rw [(List.cons.inj e0).1, Addr.add_lit] at c0
   rw [(List.cons.inj e1).1, Addr.add_lit] at c1
   rw [(List.cons.inj e2).1, Addr.add_lit] at c2
   rw [(List.cons.inj e3).1, Addr.add_lit] at c3
   exact ⟨⟨s0, s1, s2, s3⟩, b, off, rfl, World.block_lt_of_cell? w _ c0, c0, c1, c2, c3⟩)
  refine ⟨some a, cap', xs, by rw [hv, hl], fun i x hx => ?_⟩
  obtain ⟨b, off, rfl, h1, h2⟩ := hxs i x hx
  exact ⟨b, off, rfl, h1, h2⟩
theorem zkV {r : Reach} {b0 : Nat} {v : Value} {d : DataW H} {p : List MemPlace} (hv : Value.okWide Tryz.prog w r b0 30 v) (h : DataW.Trod enc Tryz.prog w base spare held 30 v d p) :
  ∃ (ao : Option Addr) (cap : Nat) (xs : List OpT), v = .slice ao xs.length cap ∧ OpsT w ao xs := by
 obtain ⟨a1, len, cap, rfl⟩ := okWide_slice Tryz.underlying30 hv
 obtain ⟨fuel, hf⟩ := h
 rcases zeF Tryz.underlying30 Tryz.underlying45 (by kernel_rfl) (by kernel_rfl) hf with hcs | ⟨a, len', cap', hcs, hrow⟩
 ·have hv : Value.slice a1 len cap = .slice none 0 0 := by simpa [Value.cells] using hcs
  exact ⟨none, 0, [], hv, fun i x hx => by cases hx⟩
 ·have hv : Value.slice a1 len cap = .slice (some a) len' cap' := by simpa [Value.cells] using hcs
  obtain ⟨xs, hl, hxs⟩ := ziM (Q := fun i (x : OpT) => ∃ b off, a = ⟨b, off, none⟩ ∧ b < w.heap.size ∧ w.cell? ⟨b, off + i * 4, none⟩ = some (.int .i64 x.kind) ∧ w.cell? ⟨b, off + i * 4 + 1, none⟩ = some (.string x.id) ∧ w.cell? ⟨b, off + i * 4 + 2, none⟩ = some (.string x.at_) ∧ w.cell? ⟨b, off + i * 4 + 3, none⟩ = some (.string x.asked)) len' (fun i hi => by
   obtain ⟨n, hfs⟩ := hrow i hi
   obtain ⟨u0, y0, c0, k0⟩ := hfs 0 _ rfl
   obtain ⟨u1, y1, c1, k1⟩ := hfs 1 _ rfl
   obtain ⟨u2, y2, c2, k2⟩ := hfs 2 _ rfl
   obtain ⟨u3, y3, c3, k3⟩ := hfs 3 _ rfl
   obtain ⟨s0, e0, _, _⟩ := DataW.trod_int Tryz.underlying3 k0
   obtain ⟨s1, e1, _, _⟩ := DataW.trod_string Tryz.underlying9 k1
   obtain ⟨s2, e2, _, _⟩ := DataW.trod_string Tryz.underlying9 k2
   obtain ⟨s3, e3, _, _⟩ := DataW.trod_string Tryz.underlying9 k3
   obtain ⟨n0, hf0⟩ := hrow 0 (by omega)
   obtain ⟨z, _, cz, _⟩ := hf0 0 _ rfl
   have hs := spot_none_of_cell cz
   clear cz hf0
   obtain ⟨b, off, sp⟩ := a
   simp [Addr.add] at hs
   subst hs
   rw [(List.cons.inj e0).1, Addr.add_lit] at c0
   rw [(List.cons.inj e1).1, Addr.add_lit] at c1
   rw [(List.cons.inj e2).1, Addr.add_lit] at c2
   rw [(List.cons.inj e3).1, Addr.add_lit] at c3
   exact ⟨⟨s0, s1, s2, s3⟩, b, off, rfl, World.block_lt_of_cell? w _ c0, c0, c1, c2, c3⟩)
  refine ⟨some a, cap', xs, by rw [hv, hl], fun i x hx => ?_⟩
  obtain ⟨b, off, rfl, h1, h2⟩ := hxs i x hx
  exact ⟨b, off, rfl, h1, h2⟩
theorem ziN {r : Reach} {b0 : Nat} {v : Value} {d : DataW H} {p : List MemPlace} (hv : Value.okWide Tryz.prog w r b0 29 v) (h : DataW.Trod enc Tryz.prog w base spare held 29 v d p) :
  ∃ ss : List ByteArray, SlAt w v (strVals ss) := by
 obtain ⟨a1, len, cap, rfl⟩ := okWide_slice Tryz.underlying29 hv
 obtain ⟨fuel, hf⟩ := h
 obtain ⟨v, ss, hcs, hsl, _⟩ := zgN Tryz.underlying29 Tryz.underlying9 zkU hf
 have hv : Value.slice a1 len cap = v := by simpa [Value.cells] using hcs
 rw [← hv] at hsl
 exact ⟨ss, hsl⟩
end
end Go.Proofs.YtnehofekgnbelaaGreatDoor
namespace Go.Proofs.YtnehofekgnbelaaGreatDoor
open Go.RowKit
set_option linter.unusedVariables false
def whoL (id at_ : ByteArray) : List UInt8 := bl id ++ 32 :: bl at_
def holdE (es : List Ent) (l : List UInt8) : Option Ent := es.find? fun e => decide (e.a.text = l)
def MapIs {H : Type} (D : DataW H) (es : List Ent) : Prop := Maps.IsMap D ∧ ∀ l z, D.atKey (.string l) z = match holdE es l with | some e => .lit (.string (whoL e.id e.at_)) | none => z
theorem zgO (es : List Ent) (x : Ent) (l : List UInt8) : holdE (es ++ [x]) l = match holdE es l with | some e => some e | none => if x.a.text = l then some x else none := by
 unfold holdE
 rw [List.find?_append]
 cases es.find? fun e => decide (e.a.text = l) with
 | some e => rfl
 | none =>
  by_cases h : x.a.text = l
  ·rw [if_pos h]
   simp [List.find?, h]
  ·rw [if_neg h]
   simp [List.find?, h]
theorem zmX {l m : List UInt8} (h : l ≠ m) : (Lit.string l) ≠ .string m := fun e => h (Lit.string.inj e)
theorem MapIs.put {H : Type} {D : DataW H} {es : List Ent} (h : MapIs D es) (x : Ent) (hno : holdE es x.a.text = none) : MapIs (D.put (.string x.a.text) (.lit (.string (whoL x.id x.at_)))) (es ++ [x]) := by
 refine ⟨h.1.put _ _, fun l z => ?_⟩
 rw [zgO]
 by_cases e : x.a.text = l
 ·subst e
  rw [Maps.atKey_put_same h.1 (by trivial), hno]
  simp
 ·rw [Maps.atKey_put_other (zmX (Ne.symm e)), h.2 l z]
  cases holdE es l with
  | some y => rfl
  | none => simp only; rw [if_neg e]
def zmA {H : Type} (D : DataW H) (es : List Ent) (who : List UInt8) (left : Lit → Bool) : Prop :=
 Maps.IsMap D ∧ ∀ l z, D.atKey (.string l) z = match holdE es l with | some e => if whoL e.id e.at_ = who ∧ left (.string l) = false then z else .lit (.string (whoL e.id e.at_)) | none => z
theorem MapIs.start {H : Type} {D : DataW H} {es : List Ent} (h : MapIs D es) (who : List UInt8) : zmA D es who (Maps.has D) := by
 refine ⟨h.1, fun l z => ?_⟩
 rw [h.2 l z]
 cases he : holdE es l with
 | none => rfl
 | some e =>
  have : Maps.has D (.string l) = true := Maps.has_true_of_atKey (y := .lit (.string (whoL e.id e.at_))) fun z => by rw [h.2 l z, he]
  simp only
  rw [this, if_neg (by simp)]
def OnceE (es : List Ent) : Prop := (es.map Ent.a).Nodup
def zmY (es : List Ent) : Prop := ∀ e ∈ es, e.a.ok ∧ 32 ∉ bl e.id ∧ 32 ∉ bl e.at_
theorem ziO {Rs : List RIn} {al : List Ad} {a b : Ad} {i : Nat} (h : askR Rs al a = some (i, b)) : b ∉ al := by
 unfold askR at h
 cases hf : Rs.findIdx? fun R => inR R a with
 | none => rw [hf] at h; cases h
 | some j =>
  rw [hf] at h
  simp only at h
  split at h
  ·cases h
  ·split at h
   ·cases h
   ·rename_i hn
    cases h
    exact fun hm => hn (zfN.2 hm)
theorem zgP {Rs : List RIn} {al mine : List Ad} {L : List (Nat × Ad)} {p : Nat × Ad} (h : freeR Rs al mine L = some p) : p.2 ∉ al := by
 unfold freeR at h
 split at h
 ·cases h
 ·have := List.find?_some (p := fun p : Nat × Ad => !hasA al p.2) h
  intro hm
  rw [zfN.2 hm] at this
  simp at this
theorem ziP {Rs : List RIn} {rd : Option Ad → List (Nat × Ad)} (hrd : Rd Rs rd) {d : Desk} {id at_ : ByteArray} {ad : Option Ad} {i : Nat} {a : Ad} (h : getR Rs rd d id at_ ad = some (i, a)) :
  a ∉ d.ads ∧ (∃ R, Rs[i]? = some R ∧ inR R a = true) ∧ ∀ b, ad = some b → a = b := by
 refine ⟨?_, zcV hrd h, fun b hb => ?_⟩
 ·unfold getR at h
  cases ad with
  | none => exact zgP (p := (i, a)) h
  | some b => exact ziO h
 ·subst hb
  unfold getR at h
  exact (zhZ h).1
theorem zkW {Rs : List RIn} {rd : Option Ad → List (Nat × Ad)} (hrd : Rd Rs rd) (hg : ∀ R ∈ Rs, Good R) (d : Desk) (o : OpIn) (hk : o.kind = 0) :
  ((stepD Rs rd d o).1.ok = false ∧ (stepD Rs rd d o).2 = d) ∨
  ∃ a R x, (stepD Rs rd d o).1.ok = true ∧ (stepD Rs rd d o).1.addr = a.text ++ 47 :: x ∧ (stepD Rs rd d o).2.held = d.held ++ [⟨a, o.id, o.at_⟩] ∧ a ∉ d.held.map Ent.a ∧ R ∈ Rs ∧ inR R a = true ∧ a.ok ∧ ∀ b, o.ad = some b → a = b := by
 unfold stepD
 rw [hk]
 cases h : getR Rs rd d o.id o.at_ o.ad with
 | none => exact .inl ⟨rfl, rfl⟩
 | some p =>
  obtain ⟨i, a⟩ := p
  obtain ⟨h1, ⟨R, h2, h3⟩, h4⟩ := ziP hrd h
  refine .inr ⟨a, R, decL (8 * a.width - R.free), ?_, ?_, rfl, h1, List.mem_of_getElem? h2, h3, (hg R (List.mem_of_getElem? h2)).ads h3, h4⟩
  ·unfold givR
   simp only [h2]
  ·unfold givR
   simp only [h2]
   rfl
structure DeskOn (d : Desk) : Prop where
 once : OnceE d.held
 words : zmY d.held
theorem DeskOn.got {d : Desk} (h : DeskOn d) {a : Ad} {id at_ : ByteArray} {es : List Ent} {la : Option Ad} (he : es = d.held ++ [⟨a, id, at_⟩]) (h1 : a ∉ d.held.map Ent.a) (h2 : a.ok) (h3 : 32 ∉ bl id) (h4 : 32 ∉ bl at_) : DeskOn ⟨es, la⟩ := by
 subst he
 refine ⟨?_, fun e he => ?_⟩
 ·show ((d.held ++ [(⟨a, id, at_⟩ : Ent)]).map Ent.a).Nodup
  rw [List.map_append]
  refine List.pairwise_append.2 ⟨h.once, List.pairwise_singleton _ _, fun x hx y hy => ?_⟩
  obtain rfl : y = a := by simpa using hy
  exact fun e => h1 (e ▸ hx)
 ·rcases List.mem_append.1 he with he | he
  ·exact h.words e he
  ·obtain rfl := List.mem_singleton.1 he
   exact ⟨h2, h3, h4⟩
theorem DeskOn.filter {d : Desk} (h : DeskOn d) (p : Ent → Bool) : DeskOn ⟨d.held.filter p, d.last⟩ := by
 refine ⟨?_, fun e he => h.words e (List.mem_filter.1 he).1⟩
 have := h.once
 unfold OnceE at this ⊢
 rw [List.Nodup, List.pairwise_map] at this ⊢
 exact this.filter _
theorem DeskOn.step {Rs : List RIn} {rd : Option Ad → List (Nat × Ad)} (hrd : Rd Rs rd) (hg : ∀ R ∈ Rs, Good R) {d : Desk} (h : DeskOn d) {o : OpIn} (ho : OpFit o) : DeskOn (stepD Rs rd d o).2 := by
 by_cases hk : o.kind = 0
 ·rcases zkW hrd hg d o hk with ⟨_, e⟩ | ⟨a, R, x, _, _, e, h1, _, _, h2, _⟩
  ·rw [e]; exact h
  ·have := DeskOn.got (la := (stepD Rs rd d o).2.last) h e h1 h2 ho.s1 ho.s2
   exact this
 ·by_cases hk1 : o.kind = 1
  ·have e : (stepD Rs rd d o).2 = ⟨d.held.filter fun e => !whoB e.id e.at_ o.id o.at_, d.last⟩ := by unfold stepD; rw [hk1]; rfl
   rw [e]
   exact h.filter _
  ·have hk2 := ho.ok.k
   have e : (stepD Rs rd d o).2 = d := by
    unfold stepD
    rw [show o.kind = 2 by omega]
    rfl
   rw [e]
   exact h
theorem zkX (a : Option Addr) (cap : Nat) (w : World) :
  Calls Tryz.prog 14 #[.slice a 0 cap] w fun e w' => e = .returned (.bool true) ∧ w = w' := by
 go_enter Tryz.func14, Tryz.ntmps14
 go_wp2
 refine wp_loop_rounds 1 ?_
 rw [rounds_succ]
 go_wp2
 go_ret
 exact ⟨rfl, rfl⟩
def zz3 (ss : List ByteArray) : Bool := decide ((ss.length : Int) ≤ 2147483647) && ss.all fun s => decide ((s.size : Int) ≤ 2147483647)
set_option maxHeartbeats 400000 in
theorem zkY (b off : Nat) (n cap : Nat) (ss : List ByteArray) (w : World) (hn : ss.length = n) (hm : n ≤ 9223372036854775807)
  (hc : ∀ i, i < n → w.cell? ⟨b, off + i, none⟩ = some (.string (ss.getD i ByteArray.empty))) :
  Calls Tryz.prog 14 #[.slice (some ⟨b, off, none⟩) n cap] w fun e w' => e = .returned (.bool (zz3 ss)) ∧ w = w' := by
 have HN := zh hn
 have HC := zh hc
 clear hn hc
 by_cases hbig : 2147483647 < (n : Int)
 ·go_enter Tryz.func14, Tryz.ntmps14
  go_wp2
  go_ret
  exact ⟨ret_bool (by simp only [zz3]; rw [decide_eq_false (by rw [HN.out]; omega)]; rfl), rfl⟩
 go_enter Tryz.func14, Tryz.ntmps14
 go_wp2
 go_loop [10] (fun i => ∃ k : Nat, k ≤ n ∧ i = .int .i64 k ∧ Hid (∀ j, j < k → ((ss.getD j ByteArray.empty).size : Int) ≤ 2147483647)) (fun i => n - (intOf i).toNat)
 case atStart => exact ⟨0, Nat.zero_le _, rfl, fun j hj => by omega⟩
 case round =>
  obtain ⟨k, hk, rfl, hall⟩ := hrel
  by_cases hlt : k < n
  ·have hcell := HC.out k hlt
   generalize hx : ss.getD k ByteArray.empty = x at hcell
   have HX := zh hx
   clear hx
   by_cases hl : 2147483647 < (x.size : Int)
   ·go_wp2
    go_ret
    refine ⟨ret_bool ?_, rfl⟩
    have h2 : (ss.all fun s => decide ((s.size : Int) ≤ 2147483647)) = false := by
     rw [List.all_eq_false]
     have hk' : k < ss.length := by rw [HN.out]; exact hlt
     refine ⟨ss.getD k ByteArray.empty, ?_, by rw [HX.out]; simp; omega⟩
     rw [List.getD_eq_getElem?_getD, List.getElem?_eq_getElem hk']
     exact List.getElem_mem hk'
    simp only [zz3]
    rw [h2, Bool.and_false]
   ·go_wp2
    go_round
    case rel => exact ⟨k + 1, by omega, by go_num, fun j hj => by
     by_cases hjk : j = k
     ·rw [hjk, HX.out]; omega
     ·exact hall.out j (by omega)⟩
    case measure => simp [intOf]; omega
  ·obtain rfl : k = n := by omega
   go_wp2
   go_ret
   refine ⟨ret_bool ?_, rfl⟩
   have h2 : (ss.all fun s => decide ((s.size : Int) ≤ 2147483647)) = true := by
    rw [List.all_eq_true]
    intro s hs
    obtain ⟨j, hj, rfl⟩ := List.getElem_of_mem hs
    have := hall.out j (by rw [← HN.out]; exact hj)
    rw [List.getD_eq_getElem?_getD, List.getElem?_eq_getElem hj] at this
    simpa using this
   simp only [zz3]
   rw [h2, decide_eq_true (by rw [HN.out]; omega)]
   rfl
theorem zmB (v : Value) (ss : List ByteArray) (w : World) (h : SlAt w v (strVals ss)) :
  Calls Tryz.prog 14 #[v] w fun e w' => e = .returned (.bool (zz3 ss)) ∧ w = w' := by
 rcases h.out with ⟨h0, ao, cap, rfl, _⟩ | ⟨b, off, cap, rfl, hb, hl, hm, h0, hc⟩
 ·have hs : ss = [] := by cases ss; rfl; cases h0
  subst hs
  exact zkX ao cap w
 ·rw [strVals_length] at hl hc ⊢
  refine zkY b off ss.length cap ss w rfl (by unfold maxLen at hm; omega) fun i hi => ?_
  rw [hc i hi, strVals_getD ss i hi]
set_option maxRecDepth 100000
set_option maxHeartbeats 1000000
theorem zmC {ss : List ByteArray} (h : zz3 ss = true) : ∀ s ∈ ss, s.size ≤ 2147483647 := by
 unfold zz3 at h
 rw [Bool.and_eq_true, List.all_eq_true] at h
 intro s hs
 have := of_decide_eq_true (h.2 s hs)
 omega
def ziQ (w : World) (s0 s1 s2 : ByteArray) (e : Ending) (w' : World) : Prop :=
 ∃ ok : Bool, e = .returned (.bool ok) ∧ (ok = true → s0.size ≤ 2147483647 ∧ s1.size ≤ 2147483647 ∧ s2.size ≤ 2147483647) ∧ Below w.heap.size w w'
theorem ziR (kind : Int) (s0 s1 s2 : ByteArray) (w : World) :
  Calls Tryz.prog 31 #[.agg #[.int .i64 kind, .string s0, .string s1, .string s2]] w (ziQ w s0 s1 s2) := by
 have HB := zh ((Below.refl w.heap.size w).alloc (Nat.le_refl _) (.cells #[.int .i64 kind, .string s0, .string s1, .string s2] 45))
 by_cases h0 : s0.size ≤ 2147483647
 rotate_left
 ·have t0 : decide ((2147483647 : Int) < s0.size) = true := decide_eq_true (by omega)
  clear h0
  go_enter Tryz.func31, Tryz.ntmps31
  go_wp2_with fail
  go_ret
  exact ⟨false, rfl, (fun h => by cases h), HB.out⟩
 have H0 := zh h0
 have t0 : decide ((2147483647 : Int) < s0.size) = false := decide_eq_false (by omega)
 by_cases h1 : s1.size ≤ 2147483647
 rotate_left
 ·have t1 : decide ((2147483647 : Int) < s1.size) = true := decide_eq_true (by omega)
  clear h0 h1
  go_enter Tryz.func31, Tryz.ntmps31
  go_wp2_with fail
  go_ret
  exact ⟨false, rfl, (fun h => by cases h), HB.out⟩
 have H1 := zh h1
 have t1 : decide ((2147483647 : Int) < s1.size) = false := decide_eq_false (by omega)
 by_cases h2 : s2.size ≤ 2147483647
 rotate_left
 ·have t2 : decide ((2147483647 : Int) < s2.size) = true := decide_eq_true (by omega)
  clear h0 h1 h2
  go_enter Tryz.func31, Tryz.ntmps31
  go_wp2_with fail
  go_ret
  exact ⟨false, rfl, (fun h => by cases h), HB.out⟩
 have H2 := zh h2
 have t2 : decide ((2147483647 : Int) < s2.size) = false := decide_eq_false (by omega)
 clear h0 h1 h2
 go_enter Tryz.func31, Tryz.ntmps31
 go_wp2_with fail
 go_ret
 exact ⟨true, rfl, (fun _ => ⟨H0.out, H1.out, H2.out⟩), HB.out⟩
def ziS (w : World) (xs : List OpT) (e : Ending) (w' : World) : Prop :=
 ∃ ok : Bool, e = .returned (.bool ok) ∧ (ok = true → xs.length ≤ 2147483647 ∧ ∀ (j : Nat) (x : OpT), xs[j]? = some x → x.fits) ∧ Below w.heap.size w w'
theorem ziT (ao : Option Addr) (cap : Nat) (xs : List OpT) (w : World) (h : OpsT w ao xs) :
  Calls Tryz.prog 15 #[.slice ao xs.length cap] w (ziS w xs) := by
 have H := zh h
 clear h
 by_cases hn : xs.length ≤ 2147483647
 rotate_left
 ·have t0 : decide ((2147483647 : Int) < xs.length) = true := decide_eq_true (by omega)
  go_enter Tryz.func15, Tryz.ntmps15
  go_wp2_with fail
  go_ret
  exact ⟨false, rfl, (fun h => by cases h), Below.refl _ _⟩
 have t0 : decide ((2147483647 : Int) < xs.length) = false := decide_eq_false (by omega)
 go_enter Tryz.func15, Tryz.ntmps15
 go_wp2_with fail
 go_loopw [10] (fun i wr => ∃ k : Nat, i = .int .i64 k ∧ k ≤ xs.length ∧ Hid ((∀ (j : Nat) (x : OpT), j < k → xs[j]? = some x → x.fits) ∧ Below w.heap.size w wr)) (fun i _ => xs.length - (intOf i).toNat)
 case atStart => exact ⟨0, rfl, by omega, zh ⟨fun j x hj => absurd hj (by omega), Below.refl _ _⟩⟩
 case round =>
  obtain ⟨k, rfl, hk, hr⟩ := hrel
  by_cases hlt : k < xs.length
  ·have tk : decide ((k : Int) < xs.length) = true := decide_eq_true (by omega)
   have hx : xs[k]? = some xs[k] := List.getElem?_eq_getElem hlt
   obtain ⟨b, off, rfl, hbl, c0, c1, c2, c3⟩ := H.out.on hr.out.2 k _ hx
   have HX := zh hx
   clear hx
   generalize xs[k] = x at *
   go_wp2_with fail
   refine (ziR x.kind x.id x.at_ x.asked _).mono ?_
   rintro e w2 ⟨ok, rfl, hf, hb2⟩
   have HF := zh hf
   have HB := zh (below_tr (hr.out.2.alloc hr.out.2.size _) hb2)
   clear hf hb2 c0 c1 c2 c3
   cases ok with
   | false =>
    go_wp2_with fail
    go_ret
    exact ⟨false, rfl, (fun h => by cases h), HB.out⟩
   | true =>
    go_wp2_with fail
    go_roundw
    case rel =>
     refine ⟨k + 1, by simp, by omega, zh ⟨fun j y hj hy => ?_, HB.out⟩⟩
     by_cases hjk : j = k
     ·subst hjk
      rw [HX.out] at hy
      cases hy
      exact HF.out (by trivial)
     ·exact hr.out.1 j y (by omega) hy
    case measure => simp [intOf]; omega
  ·have tk : decide ((k : Int) < xs.length) = false := decide_eq_false (by omega)
   go_wp2_with fail
   go_ret
   exact ⟨true, rfl, (fun _ => ⟨hn, fun j x hx => hr.out.1 j x (by have := (List.getElem?_eq_some_iff.1 hx).1; omega) hx⟩), hr.out.2⟩
end Go.Proofs.YtnehofekgnbelaaGreatDoor

/-
  Texts put together: RFor.
-/
import Derived.Test.YtnehofekgnbelaaGreatDoorY21
import Derived.Test.YtnehofekgnbelaaGreatDoorY26
import Derived.Test.YtnehofekgnbelaaGreatDoorY28
namespace Go.Proofs.YtnehofekgnbelaaGreatDoor
open Go.RowKit
set_option linter.unusedVariables false
set_option maxRecDepth 100000
set_option maxHeartbeats 1000000
structure Good (R : RIn) : Prop where
 k : ROk R
 ok : okR R = true
 g : yP R
def inR (R : RIn) (a : Ad) : Bool := hasB R.a (zB R) (zC R) a
theorem Good.cont {R : RIn} (h : Good R) (a : Ad) : contR R a = inR R a := xD h.g h.ok a
def ElV (w : World) (g i : Nat) (R : RIn) : Prop := ∃ v0 v1 vi vm v4, RgAt w g (i * 5) v0 v1 vi vm v4 ∧ HeldV w v0 v1 vi vm v4 R
structure SetH (base : Nat) (w : World) (SV g cap : Nat) (Rs : List RIn) : Prop where
 row : w.heap[SV]? = some (.cells #[.slice (some ⟨g, 0, none⟩) Rs.length cap] 89 (0, 0))
 le : Rs.length ≤ cap
 most : cap ≤ 9223372036854775807
 slo : SV < base
 glo : g < base
 sz : base ≤ w.heap.size
 els : ∀ (i : Nat) (R : RIn), Rs[i]? = some R → ElV w g i R
 good : ∀ R ∈ Rs, Good R
section
variable {w w' : World} {v0 v1 vi vm v4 : Value} {R : RIn} {B o : Nat}
theorem RgAt.of_block (h : RgAt w B o v0 v1 vi vm v4) (hb : w'.heap[B]? = w.heap[B]?) : RgAt w' B o v0 v1 vi vm v4 :=
 have e : ∀ j, w'.cell? ⟨B, j, none⟩ = w.cell? ⟨B, j, none⟩ := fun j => World.cell?_of_block (a := ⟨B, j, none⟩) hb
 ⟨(e _).trans h.c0, (e _).trans h.c1, (e _).trans h.c2, (e _).trans h.c3, (e _).trans h.c4⟩
theorem HeldV.stay (h : HeldV w v0 v1 vi vm v4 R) (hk : Bk w w') : HeldV w' v0 v1 vi vm v4 R :=
 ⟨IPAt.stay h.hs hk, IPAt.stay h.he hk, IPAt.stay h.net hk, IPAt.stay h.mask hk, IPAt.stay h.hg hk⟩
theorem SetH.fr {SV g cap : Nat} {Rs : List RIn} {ts : List Nat} {base : Nat} (h : SetH base w SV g cap Rs) (hf : Fr ts base w w') (h1 : 89 ∉ ts) (h2 : 72 ∉ ts) : SetH base w' SV g cap Rs := by
 have hg : w'.heap[g]? = w.heap[g]? := hf.low g h.glo (Nat.lt_of_lt_of_le h.glo h.sz)
 refine ⟨(hf.low SV h.slo (Nat.lt_of_lt_of_le h.slo h.sz)).trans h.row, h.le, h.most, h.slo, h.glo, Nat.le_trans h.sz hf.size, fun i R hR => ?_, h.good⟩
 obtain ⟨v0, v1, vi, vm, v4, ha, hh⟩ := h.els i R hR
 exact ⟨v0, v1, vi, vm, v4, ha.of_block hg, hh.stay hf.bk⟩
theorem SetH.on {SV g cap : Nat} {Rs : List RIn} {base : Nat} (h : SetH base w SV g cap Rs) (hb : Below w.heap.size w w') : SetH base w' SV g cap Rs := h.fr (ts := []) (base := base) (Fr.of_below hb) (by simp) (by simp)
theorem Fr.then {ts : List Nat} {base : Nat} {w w1 w2 : World} (h : Fr ts base w w1) (hb : Below w.heap.size w1 w2) : Fr ts base w w2 :=
 ⟨hb.os.trans h.os, hb.tape.trans h.tape, hb.output.trans h.output, Nat.le_trans h.size hb.size, fun k hk hl => (hb.block k hl).trans (h.low k hk hl), fun k cs t f hk ht => by
  rw [hb.block k (Array.getElem?_eq_some_iff.1 hk).1]; exact h.rows k cs t f hk ht, fun q x hq => by
  rw [hb.cell (World.block_lt_of_cell? w _ hq)]; exact h.bk q x hq⟩
theorem HeldV.contA {v : Value} {b : Ad} (h : HeldV w v0 v1 vi vm v4 R) (hr : w.heap[B]? = some (.cells #[v0, v1, vi, vm, v4] 72 (0, 0))) (hg : Good R) (hv : AdAt w v b) (ob : b.ok) :
  Calls Tryz.prog 84 #[.pointer (some ⟨B, 0, none⟩), v] w (BelowPost w (.bool (inR R b))) := by
 have hh := h.held hr hg.k hg.ok
 have := contains_any B 0 v0 v1 vi vm v4 v R.a R.free (some (zB R)) (some (zC R)) b w ⟨hh.at_, .inr hh.hs, .inr hh.he, hh.net, hh.mask, hv, hh.oa, ob, fun s hs => by cases hs; exact hh.os, fun s hs => by cases hs; exact hh.oe, hh.room⟩
 rw [← hg.cont b]
 exact this
theorem HeldV.slices (h : HeldV w v0 v1 vi vm v4 R) : (∃ b n c, v0 = .slice b n c) ∧ (∃ b n c, v1 = .slice b n c) ∧ (∃ b n c, vi = .slice b n c) ∧ (∃ b n c, vm = .slice b n c) ∧ ∃ b n c, v4 = .slice b n c :=
 ⟨zK h.hs.1, zK h.he.1, zK h.net.1, zK h.mask.1, zK h.hg.1⟩
end
def zjP (w : World) (Rs : List RIn) (a : Ad) (e : Ending) (w' : World) : Prop :=
 Below w.heap.size w w' ∧
 ((∃ (i : Nat) (R : RIn) (N : Nat) (v0 v1 vi vm v4 : Value), Rs[i]? = some R ∧ inR R a = true ∧ (∀ Q ∈ Rs.take i, inR Q a = false) ∧ e = .returned (.tuple #[.pointer (some ⟨N, 0, none⟩), .nilIface]) ∧
   w'.heap[N]? = some (.cells #[v0, v1, vi, vm, v4] 72 (0, 0)) ∧ HeldV w' v0 v1 vi vm v4 R ∧ w.heap.size ≤ N) ∨
   ((∀ Q ∈ Rs, inR Q a = false) ∧ ∃ b, e = .returned (.tuple #[.pointer none, .iface 203 (.pointer (some ⟨b, 0, none⟩))])))
theorem xE {base : Nat} (SV g cap : Nat) (Rs : List RIn) (v : Value) (a : Ad) (w : World) (h : SetH base w SV g cap Rs) (hv : AdAt w v a) (ok : a.ok) :
  Calls Tryz.prog 101 #[.pointer (some ⟨SV, 0, none⟩), v] w (zjP w Rs a) := by
 have H := zh h
 have HOK := zh ok
 obtain ⟨bv, ov, nv, cv, rfl⟩ := hv.slice
 have hn := heap_alloc_new w (.cells #[.slice (some ⟨bv, ov, none⟩) nv cv] 67)
 have hbA : Below w.heap.size w (w.alloc (.cells #[.slice (some ⟨bv, ov, none⟩) nv cv] 67)) := (Below.refl _ _).alloc (Nat.le_refl _) _
 have HBA := zh hbA
 have HN := zh hn
 have HC := zh (canonIP_any w.heap.size 0 (.slice (some ⟨bv, ov, none⟩) nv cv) a (w.alloc (.cells #[.slice (some ⟨bv, ov, none⟩) nv cv] 67)) (cell_of_row _ _ 0 _ _ _ hn) (frozen_of_row _ _ 0 _ _ hn) (hv.keep hbA))
 clear h hv ok hn hbA
 go_enter Tryz.func101, Tryz.ntmps101
 go_wp2_with fail
 refine HC.out.mono ?_
 rintro e w1 ⟨v', rfl, hv', hw1⟩
 have hrow : w1.heap[w.heap.size]? = some (.cells #[v'] 67 (0, 0)) := by rw [hw1]; exact heap_setCell_same _ _ 0 _ _ _ HN.out
 have hbk : Bk (w.alloc (.cells #[.slice (some ⟨bv, ov, none⟩) nv cv] 67)) w1 := by
  rw [hw1]
  exact Bk.set (fun x => by rw [cell_of_row _ _ 0 _ _ _ HN.out]; simp [u8v])
 have hb1 : Below w.heap.size w w1 := by rw [hw1]; exact HBA.out.setCell (Nat.le_refl _) _
 have hva : BriefAt w1 v' a := IPAt.stay hv' hbk
 have HVA := zh hva
 have HROW := zh hrow
 have HB1 := zh hb1
 have H1 := zh (H.out.on hb1)
 obtain ⟨b', o', c', rfl, _⟩ := BriefAt.out hva
 have l1 : w.heap.size < w1.heap.size := (Array.getElem?_eq_some_iff.1 hrow).1
 have cS : w1.cell? ⟨SV, 0, none⟩ = some (.slice (some ⟨g, 0, none⟩) Rs.length cap) := cell_of_row w1 SV 0 _ _ _ H1.out.row
 have hle := H.out.le
 have hmo := H.out.most
 clear hv' hw1 hrow hbk hb1 hva HC
 go_wp2_with fail
 go_loopw [17] (fun i wr => ∃ k : Nat, i = .int .i64 k ∧ k ≤ Rs.length ∧ Hid (Below w1.heap.size w1 wr ∧ ∀ Q ∈ Rs.take k, inR Q a = false)) (fun i _ => Rs.length - (intOf i).toNat)
 case atStart => exact ⟨0, rfl, by omega, zh ⟨Below.refl _ _, fun h hh => by simp at hh⟩⟩
 case round =>
  obtain ⟨k, rfl, hk, hr⟩ := hrel
  by_cases hlt : k < Rs.length
  rotate_left
  ·obtain rfl : k = Rs.length := by omega
   have tk : decide ((Rs.length : Int) < Rs.length) = false := decide_eq_false (by omega)
   go_wp2_with fail
   refine (newError_any _ _).mono ?_
   rintro e w2 ⟨rfl, hb2⟩
   have HB2 := zh hb2
   clear hb2
   go_wp2_with fail
   go_ret2
   refine ⟨HB1.out.trans ((below_tr hr.out.1 HB2.out).mono HB1.out.size), .inr ⟨?_, _, rfl⟩⟩
   have := hr.out.2
   rw [List.take_length] at this
   exact this
  have tk : decide ((k : Int) < Rs.length) = true := decide_eq_true (by omega)
  have hx : Rs[k]? = some Rs[k] := List.getElem?_eq_getElem hlt
  have hgood := H.out.good _ (List.getElem_mem hlt)
  obtain ⟨v0, v1, vi, vm, v4, hat, hhv⟩ := (H1.out.on hr.out.1).els k _ hx
  have htake : Rs.take (k + 1) = Rs.take k ++ [Rs[k]] := List.take_succ_eq_append_getElem hlt
  generalize Rs[k] = R at *
  have HX := zh hx
  have HTK := zh htake
  have HHV := zh hhv
  obtain ⟨⟨b0, n0, k0, rfl⟩, ⟨b1, n1, k1, rfl⟩, ⟨b2, n2, k2, rfl⟩, ⟨b3, n3, k3, rfl⟩, ⟨b4, n4, k4, rfl⟩⟩ := hhv.slices
  obtain ⟨c0, c1, c2, c3, c4⟩ := hat
  have cB : wr.cell? ⟨w.heap.size, 0, none⟩ = some (.slice (some ⟨b', o', none⟩) a.width c') := (hr.out.1.cell (p := ⟨w.heap.size, 0, none⟩) l1).trans (cell_of_row w1 _ 0 _ _ _ HROW.out)
  have lr : w.heap.size < wr.heap.size := Nat.lt_of_lt_of_le l1 hr.out.1.size
  have q1 : (0 : Int) ≤ (k : Int) := by omega
  obtain ⟨b, hb⟩ : ∃ b, b = inR R a := ⟨_, rfl⟩
  have hnew := heap_alloc_new wr (.cells #[.slice b0 n0 k0, .slice b1 n1 k1, .slice b2 n2 k2, .slice b3 n3 k3, .slice b4 n4 k4] 72)
  have hbn : Below wr.heap.size wr (wr.alloc (.cells #[.slice b0 n0 k0, .slice b1 n1 k1, .slice b2 n2 k2, .slice b3 n3 k3, .slice b4 n4 k4] 72)) := (Below.refl _ _).alloc (Nat.le_refl _) _
  have HNEW := zh hnew
  have HBN := zh hbn
  have HCO := zh (show Calls Tryz.prog 84 #[.pointer (some ⟨wr.heap.size, 0, none⟩), .slice (some ⟨b', o', none⟩) a.width c'] (wr.alloc (.cells #[.slice b0 n0 k0, .slice b1 n1 k1, .slice b2 n2 k2, .slice b3 n3 k3, .slice b4 n4 k4] 72)) (BelowPost _ (.bool b)) from by
   rw [hb]; exact (hhv.on hbn).contA hnew hgood (.inr (BriefAt.keep (BriefAt.keep HVA.out hr.out.1) hbn)) HOK.out)
  have HB := zh hb
  clear hx htake hhv hb hnew hbn hgood
  go_wp2_with fail
  refine HCO.out.mono ?_
  rintro e w2 ⟨rfl, hb2⟩
  have HB2 := zh (below_tr HBN.out hb2)
  have HR2 := zh (row_on hb2 HNEW.out)
  clear hb2 c0 c1 c2 c3 c4 cB
  cases b with
  | true =>
   go_wp2_with fail
   go_ret2
   exact ⟨HB1.out.trans ((below_tr hr.out.1 HB2.out).mono HB1.out.size), .inl ⟨k, R, wr.heap.size, _, _, _, _, _, HX.out, HB.out.symm, hr.out.2, rfl, HR2.out, HHV.out.on HB2.out, by have := HB1.out.size; have := hr.out.1.size; omega⟩⟩
  | false =>
   go_wp2_with fail
   go_roundw
   case rel => exact ⟨k + 1, by simp, by omega, zh ⟨below_tr hr.out.1 HB2.out, fun Q hQ => by
    rw [HTK.out] at hQ
    rcases List.mem_append.1 hQ with hQ | hQ
    ·exact hr.out.2 Q hQ
    ·obtain rfl := List.mem_singleton.1 hQ
     exact HB.out.symm⟩⟩
   case measure => simp [intOf]; omega
theorem zbK {base : Nat} (SV g cap : Nat) (Rs : List RIn) (v : Value) (a : Ad) (w : World) (h : SetH base w SV g cap Rs) (hv : AdAt w v a) (ok : a.ok) :
  Calls Tryz.prog 141 #[.pointer (some ⟨SV, 0, none⟩), v] w (BelowPost w (.bool (Rs.any fun R => inR R a))) := by
 have HF := zh (xE SV g cap Rs v a w h hv ok)
 obtain ⟨bv, ov, nv, cv, rfl⟩ := hv.slice
 clear h hv ok
 go_enter Tryz.func141, Tryz.ntmps141
 go_wp2_with fail
 refine HF.out.mono ?_
 rintro e w1 ⟨hb, ⟨i, R, N, v0, v1, vi, vm, v4, hR, hin, _, rfl, _⟩ | ⟨hno, b, rfl⟩⟩
 ·have HB := zh hb
  have HA := zh (show (Rs.any fun R => inR R a) = true from List.any_eq_true.2 ⟨R, List.mem_of_getElem? hR, hin⟩)
  clear hb hR hin HF
  go_wp2_with fail
  go_ret
  exact ⟨ret_bool HA.out.symm, HB.out⟩
 ·have HB := zh hb
  have HA := zh (show (Rs.any fun R => inR R a) = false from List.any_eq_false.2 (fun R hR => by rw [hno R hR]; decide))
  clear hb hno HF
  go_wp2_with fail
  go_ret
  exact ⟨ret_bool HA.out.symm, HB.out⟩
end Go.Proofs.YtnehofekgnbelaaGreatDoor

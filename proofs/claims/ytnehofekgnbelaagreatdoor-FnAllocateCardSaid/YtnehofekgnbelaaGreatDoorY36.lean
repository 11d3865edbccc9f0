/-
  Texts put together: Iter, Iter
-/
import Derived.Test.YtnehofekgnbelaaGreatDoorY29
import Derived.Test.YtnehofekgnbelaaGreatDoorY30
import Derived.Test.YtnehofekgnbelaaGreatDoorY21
import Derived.Test.YtnehofekgnbelaaGreatDoorM12
import Derived.Test.YtnehofekgnbelaaGreatDoorY32
import Derived.Deep.DeepCutAuto
import Derived.Test.YtnehofekgnbelaaGreatDoorY35
import Derived.Test.YtnehofekgnbelaaGreatDoorY2
namespace Go.Proofs.YtnehofekgnbelaaGreatDoor
open Go.RowKit
set_option linter.unusedVariables false
set_option maxRecDepth 100000
set_option maxHeartbeats 1000000
structure It where
 idx : Nat
 cur : Option Ad
 start : Option Ad
inductive StepR (Rs : List RIn) : Nat → Ad → Nat → Ad → Prop
 | wrap {i : Nat} {R R' : RIn} : Rs[i]? = some R → Rs[(i + 1) % Rs.length]? = some R' → StepR Rs i (zC R) ((i + 1) % Rs.length) (zB R')
 | up {i : Nat} {c : Ad} {R : RIn} : Rs[i]? = some R → c ≠ zC R → c.up.ok → StepR Rs i c i c.up
inductive NextR (Rs : List RIn) : It → It → Option (Nat × Ad) → Prop
 | fresh {i : Nat} {s : Option Ad} {R : RIn} : Rs[i]? = some R → zB R ≠ zE R → NextR Rs ⟨i, none, s⟩ ⟨i, some (zB R), some (zB R)⟩ (some (i, zB R))
 | freshGate {i : Nat} {s : Option Ad} {R : RIn} {it' : It} {r : Option (Nat × Ad)} : Rs[i]? = some R → zB R = zE R → NextR Rs ⟨i, some (zB R), some (zB R)⟩ it' r → NextR Rs ⟨i, none, s⟩ it' r
 | stop {i j : Nat} {c d : Ad} : StepR Rs i c j d → NextR Rs ⟨i, some c, some d⟩ ⟨j, some d, some d⟩ none
 | go {i j : Nat} {c d : Ad} {s : Option Ad} {R : RIn} : StepR Rs i c j d → s ≠ some d → Rs[j]? = some R → d ≠ zE R → NextR Rs ⟨i, some c, s⟩ ⟨j, some d, some (s.getD d)⟩ (some (j, d))
 | goGate {i j : Nat} {c d : Ad} {s : Option Ad} {R : RIn} {it' : It} {r : Option (Nat × Ad)} : StepR Rs i c j d → s ≠ some d → Rs[j]? = some R → d = zE R → NextR Rs ⟨j, some d, some (s.getD d)⟩ it' r → NextR Rs ⟨i, some c, s⟩ it' r
structure IterAt (w : World) (IT SV : Nat) (it : It) : Prop where
 row : ∃ vc vs, w.heap[IT]? = some (.cells #[.pointer (some ⟨SV, 0, none⟩), .int .i64 it.idx, vc, vs] 223 (0, 0)) ∧ OptAt w vc it.cur ∧ OptAt w vs it.start
 cok : ∀ a, it.cur = some a → a.ok
 sok : ∀ a, it.start = some a → a.ok
theorem IterAt.fr {w w' : World} {IT SV : Nat} {it : It} {ts : List Nat} {base : Nat} (h : IterAt w IT SV it) (hf : Fr ts base w w') (h1 : 223 ∉ ts) : IterAt w' IT SV it := by
 obtain ⟨vc, vs, hr, hc, hs⟩ := h.row
 exact ⟨⟨vc, vs, hf.rows _ _ _ _ hr h1, hc.stay hf.bk, hs.stay hf.bk⟩, h.cok, h.sok⟩
def zkA (w : World) (base IT SV : Nat) (Rs : List RIn) (it' : It) (r : Option (Nat × Ad)) (e : Ending) (w' : World) : Prop :=
 IterAt w' IT SV it' ∧ Fr [223] base w w' ∧ match r with
 | none => e = .returned (.tuple #[.pointer none, .slice none 0 0])
 | some (i, a) => ∃ N va vm v4 R, Rs[i]? = some R ∧ e = .returned (.tuple #[.pointer (some ⟨N, 0, none⟩), v4]) ∧ w'.heap[N]? = some (.cells #[va, vm] 75 (0, 0)) ∧ AdAt w' va a ∧ IPAt w' vm (R.a.mask R.free) ∧ BriefAt w' v4 (zE R)
def zdK (SV g cap : Nat) (Rs : List RIn) (it it' : It) (r : Option (Nat × Ad)) : Prop :=
 ∀ (base IT : Nat) (w : World), SetH base w SV g cap Rs → IterAt w IT SV it → base ≤ IT → Calls Tryz.prog 103 #[.pointer (some ⟨IT, 0, none⟩)] w (zkA w base IT SV Rs it' r)
theorem zcG (SV g cap : Nat) (Rs : List RIn) (i : Nat) (s : Option Ad) (R : RIn) (it' : It) (r : Option (Nat × Ad)) (hR : Rs[i]? = some R)
  (hyes : zB R = zE R → zdK SV g cap Rs ⟨i, some (zB R), some (zB R)⟩ it' r) (hno : zB R ≠ zE R → it' = ⟨i, some (zB R), some (zB R)⟩ ∧ r = some (i, zB R)) : zdK SV g cap Rs ⟨i, none, s⟩ it' r := by
 intro base IT w hset hit hB
 have hnil := fun w a n c => Lib.run_eql_slice_nil (P := Tryz.prog) w 67 5 a n c 0 0 Tryz.underlying67
 have HSET := zh hset
 have HIT := zh hit
 obtain ⟨vc, vs, hrow, hc, hs⟩ := hit.row
 obtain rfl : vc = .slice none 0 0 := hc
 have hgood := hset.good R (List.mem_of_getElem? hR)
 obtain ⟨v0, v1, vi, vm, v4, hat, hhv⟩ := hset.els i R hR
 have HHV := zh hhv
 have HROW := zh hrow
 obtain ⟨⟨b0, n0, k0, rfl⟩, ⟨b1, n1, k1, rfl⟩, ⟨b2, n2, k2, rfl⟩, ⟨b3, n3, k3, rfl⟩, ⟨b4, n4, k4, rfl⟩⟩ := hhv.slices
 obtain ⟨bs, ns, ks, rfl⟩ := hs.slice
 obtain ⟨c0, c1, c2, c3, c4⟩ := hat
 have i0 := cell_of_row w IT 0 _ _ _ hrow
 have i1 := cell_of_row w IT 1 _ _ _ hrow
 have i2 := cell_of_row w IT 2 _ _ _ hrow
 have i3 := cell_of_row w IT 3 _ _ _ hrow
 have z2 := frozen_of_row w IT 2 _ _ hrow
 have z3 := frozen_of_row w IT 3 _ _ hrow
 have cS : w.cell? ⟨SV, 0, none⟩ = some (.slice (some ⟨g, 0, none⟩) Rs.length cap) := cell_of_row w SV 0 _ _ _ hset.row
 have q1 : (0 : Int) ≤ (i : Int) := by omega
 have q2 : (i : Int) < (Rs.length : Int) := by have := (List.getElem?_eq_some_iff.1 hR).1; omega
 have lI : IT < w.heap.size := (Array.getElem?_eq_some_iff.1 hrow).1
 have HR := zh hR
 have HG := zh hgood
 have HY := zh hyes
 have HN := zh hno
 clear hset hit hrow hs hgood hhv hR hyes hno
 go_enter Tryz.func103, Tryz.ntmps103
 go_wp2_with fail
 go_region_held3 (fun w' => w'.cell? ⟨IT, 0, none⟩ = some (.pointer (some ⟨SV, 0, none⟩)) ∧ w'.cell? ⟨IT, 1, none⟩ = some (.int .i64 i) ∧ w'.cell? ⟨SV, 0, none⟩ = some (.slice (some ⟨g, 0, none⟩) Rs.length cap) ∧
  w'.cell? ⟨g, i * 5, none⟩ = some (.slice b0 n0 k0) ∧ w'.cell? ⟨g, i * 5 + 1, none⟩ = some (.slice b1 n1 k1) ∧ w'.cell? ⟨g, i * 5 + 2, none⟩ = some (.slice b2 n2 k2) ∧ w'.cell? ⟨g, i * 5 + 3, none⟩ = some (.slice b3 n3 k3) ∧ w'.cell? ⟨g, i * 5 + 4, none⟩ = some (.slice b4 n4 k4)) (go_keep) (fail)
 go_wp2_with fail
 have hse := yB HG.out.k.oa HG.out.k.room HG.out.k.k1 HG.out.k.k2 HG.out.ok
 have hgo := xO HG.out.k HG.out.ok
 have s1 := heap_setCell_same w IT 2 _ _ (.slice b0 n0 k0) HROW.out
 have s2 := heap_setCell_same _ IT 3 _ _ (.slice b0 n0 k0) s1
 have nb2 : ∀ x : UInt8, w.cell? ⟨IT, 2, none⟩ ≠ some (u8v x) := fun x => by rw [i2]; simp [u8v]
 have nb3 : ∀ x : UInt8, (w.setCell ⟨IT, 2, none⟩ (.slice b0 n0 k0)).cell? ⟨IT, 3, none⟩ ≠ some (u8v x) := fun x => by rw [cell_of_row _ _ 3 _ _ _ s1]; simp [u8v]
 have hfA : Fr [223] base w (((w.setCell ⟨IT, 2, none⟩ (.slice b0 n0 k0)).setCell ⟨IT, 3, none⟩ (.slice b0 n0 k0)).alloc (.cells #[.slice b0 n0 k0, .slice b1 n1 k1, .slice b2 n2 k2, .slice b3 n3 k3, .slice b4 n4 k4] 72)).drew :=
  ((Fr.set HROW.out (by simp) hB nb2).trans (Fr.set s1 (by simp) hB nb3)).then (below_drewN ((Below.refl _ _).alloc (by simp) _) 1)
 have hItA : (((w.setCell ⟨IT, 2, none⟩ (.slice b0 n0 k0)).setCell ⟨IT, 3, none⟩ (.slice b0 n0 k0)).alloc (.cells #[.slice b0 n0 k0, .slice b1 n1 k1, .slice b2 n2 k2, .slice b3 n3 k3, .slice b4 n4 k4] 72)).drew.heap[IT]? = some (.cells #[.pointer (some ⟨SV, 0, none⟩), .int .i64 i, .slice b0 n0 k0, .slice b0 n0 k0] 223 (0, 0)) :=
  (heap_alloc_old _ _ (by simp; exact lI)).trans s2
 have hNA : (((w.setCell ⟨IT, 2, none⟩ (.slice b0 n0 k0)).setCell ⟨IT, 3, none⟩ (.slice b0 n0 k0)).alloc (.cells #[.slice b0 n0 k0, .slice b1 n1 k1, .slice b2 n2 k2, .slice b3 n3 k3, .slice b4 n4 k4] 72)).drew.heap[w.heap.size]? = some (.cells #[.slice b0 n0 k0, .slice b1 n1 k1, .slice b2 n2 k2, .slice b3 n3 k3, .slice b4 n4 k4] 72) := by
  have := heap_alloc_new ((w.setCell ⟨IT, 2, none⟩ (.slice b0 n0 k0)).setCell ⟨IT, 3, none⟩ (.slice b0 n0 k0)) (.cells #[.slice b0 n0 k0, .slice b1 n1 k1, .slice b2 n2 k2, .slice b3 n3 k3, .slice b4 n4 k4] 72)
  rw [show ((w.setCell ⟨IT, 2, none⟩ (.slice b0 n0 k0)).setCell ⟨IT, 3, none⟩ (.slice b0 n0 k0)).heap.size = w.heap.size by simp] at this
  exact this
 have HFA := zh hfA
 have HITA := zh hItA
 have HNA := zh hNA
 have HHA := zh (HHV.out.stay hfA.bk)
 obtain ⟨b, hb⟩ : ∃ b, b = decide (zB R = zE R) := ⟨_, rfl⟩
 have hq : ∀ x : Kin ((((w.setCell ⟨IT, 2, none⟩ (.slice b0 n0 k0)).setCell ⟨IT, 3, none⟩ (.slice b0 n0 k0)).alloc (.cells #[.slice b0 n0 k0, .slice b1 n1 k1, .slice b2 n2 k2, .slice b3 n3 k3, .slice b4 n4 k4] 72)).drew), Calls Tryz.prog 68 #[.slice b0 n0 k0, .slice b4 n4 k4] x.on (BelowPost x.on (.bool b)) := fun x => by
  rw [hb]
  exact yT _ _ _ _ x.on (.inr (BriefAt.keep HHA.out.hs x.ok)) (.inr (BriefAt.keep HHA.out.hg x.ok)) hse.1 hgo
 have HE := zh (fun x => zV (fun _ _ h => h) (hq x))
 have kI : ∀ x : Kin ((((w.setCell ⟨IT, 2, none⟩ (.slice b0 n0 k0)).setCell ⟨IT, 3, none⟩ (.slice b0 n0 k0)).alloc (.cells #[.slice b0 n0 k0, .slice b1 n1 k1, .slice b2 n2 k2, .slice b3 n3 k3, .slice b4 n4 k4] 72)).drew), x.on.cell? ⟨IT, 2, none⟩ = some (.slice b0 n0 k0) := zG (cell_of_row _ _ 2 _ _ _ hItA)
 have kN : ∀ x : Kin ((((w.setCell ⟨IT, 2, none⟩ (.slice b0 n0 k0)).setCell ⟨IT, 3, none⟩ (.slice b0 n0 k0)).alloc (.cells #[.slice b0 n0 k0, .slice b1 n1 k1, .slice b2 n2 k2, .slice b3 n3 k3, .slice b4 n4 k4] 72)).drew), x.on.cell? ⟨w.heap.size, 4, none⟩ = some (.slice b4 n4 k4) := zG (cell_of_row _ _ 4 _ _ _ hNA)
 have HOKS := zh hse.1
 have HBD := zh hb
 clear hse hgo s1 s2 nb2 nb3 hfA hItA hNA hb hq c0 c1 c2 c3 c4 i0 i1 i2 i3 z2 z3 cS
 refine xH (by kernel_rfl) (by kernel_rfl) ?_
 repeat (go_big_quiet_step (first | (go_at_call 68; exact HE.out _)))
 refine wpQuiet_nil ?_
 intro _ hw'
 obtain ⟨x, rfl⟩ := hw'
 have hItX := row_on x.ok HITA.out
 have hNX := row_on x.ok HNA.out
 have HHX := zh (HHA.out.on x.ok)
 have HFX := zh (HFA.out.trans (Fr.of_below x.ok))
 have HITX := zh hItX
 have HNX := zh hNX
 clear kI kN HE HITA HNA HHA HFA
 generalize x.on = wx at hItX hNX HHX HFX HITX HNX ⊢
 have HIX := zh (show IterAt wx IT SV ⟨i, some (zB R), some (zB R)⟩ from ⟨⟨_, _, HITX.out, .inr HHX.out.hs, .inr HHX.out.hs⟩, fun a h => by cases h; exact HOKS.out, fun a h => by cases h; exact HOKS.out⟩)
 have d2 := cell_of_row wx IT 2 _ _ _ hItX
 have e3 := cell_of_row wx _ 3 _ _ _ hNX
 have e4 := cell_of_row wx _ 4 _ _ _ hNX
 clear hItX hNX
 cases b with
 | true =>
  have heq := of_decide_eq_true HBD.out.symm
  have HCALL := zh (HY.out heq base IT wx (HSET.out.fr HFX.out (by decide) (by decide)) HIX.out hB)
  clear heq
  go_wp2_with fail
  refine HCALL.out.mono ?_
  rintro e w3 ⟨hit3, hf3, hres⟩
  have HI3 := zh hit3
  have HF3 := zh (HFX.out.trans hf3)
  clear hit3 hf3
  cases r with
  | none =>
   obtain rfl := hres
   go_wp2_with fail
   go_ret2
   exact ⟨HI3.out, HF3.out, rfl⟩
  | some p =>
   obtain ⟨i', a'⟩ := p
   obtain ⟨N, va, vm, v4', R', hR', rfl, hn, ha, hm, hg4⟩ := hres
   have HRES := zh (And.intro hR' (And.intro hn (And.intro ha (And.intro hm hg4))))
   obtain ⟨b9, n9, k9, rfl⟩ := zK hg4.1
   clear hR' hn ha hm hg4
   go_wp2_with fail
   go_ret2
   obtain ⟨q1, q2, q3, q4, q5⟩ := HRES.out
   exact ⟨HI3.out, HF3.out, N, va, vm, _, R', q1, rfl, q2, q3, q4, q5⟩
 | false =>
  have HNO := zh (HN.out (of_decide_eq_false HBD.out.symm))
  go_wp2_with fail
  go_region_held3 (fun w' => w'.cell? ⟨IT, 2, none⟩ = some (.slice b0 n0 k0) ∧ w'.cell? ⟨w.heap.size, 3, none⟩ = some (.slice b3 n3 k3) ∧ w'.cell? ⟨w.heap.size, 4, none⟩ = some (.slice b4 n4 k4)) (go_keep) (fail)
  go_wp2_with fail
  go_ret2
  obtain ⟨rfl, rfl⟩ := HNO.out
  have hb := below_drewN ((Below.refl wx.heap.size wx).alloc (Nat.le_refl _) (.cells #[.slice b0 n0 k0, .slice b3 n3 k3] 75)) 1
  exact ⟨HIX.out.fr (ts := []) (base := 0) (Fr.of_below hb) (by simp), HFX.out.trans (Fr.of_below hb), wx.heap.size, _, _, _, R, HR.out, rfl, heap_alloc_new wx _, .inr (BriefAt.keep HHX.out.hs hb), IPAt.keep HHX.out.mask hb, BriefAt.keep HHX.out.hg hb⟩
set_option maxHeartbeats 2000000
structure NS (w : World) (base IT SV N j : Nat) (R : RIn) (c s : Option Ad) (wr : World) : Prop where
 it : IterAt wr IT SV ⟨j, c, s⟩
 box : ∃ v0 v1 vi vm v4, wr.heap[N]? = some (.cells #[v0, v1, vi, vm, v4] 72 (0, 0)) ∧ HeldV wr v0 v1 vi vm v4 R
 fr : Fr [223] base w wr
theorem NS.on {w wr w2 : World} {base IT SV N j : Nat} {R : RIn} {c s : Option Ad} (h : NS w base IT SV N j R c s wr) (hb : Below wr.heap.size wr w2) : NS w base IT SV N j R c s w2 := by
 obtain ⟨v0, v1, vi, vm, v4, hr, hh⟩ := h.box
 exact ⟨h.it.fr (ts := []) (base := 0) (Fr.of_below hb) (by simp), ⟨v0, v1, vi, vm, v4, row_on hb hr, hh.on hb⟩, h.fr.trans (Fr.of_below hb)⟩
theorem yV (SV g cap : Nat) (Rs : List RIn) (i j : Nat) (c d : Ad) (s : Option Ad) (R R' : RIn) (it' : It) (r : Option (Nat × Ad)) (hR : Rs[i]? = some R) (hR' : Rs[j]? = some R')
  (hstep : (c = zC R ∧ j = (i + 1) % Rs.length ∧ d = zB R') ∨ (c ≠ zC R ∧ j = i ∧ d = c.up ∧ c.up.ok)) (hstop : s = some d → it' = ⟨j, some d, some d⟩ ∧ r = none)
  (hyes : s ≠ some d → d = zE R' → zdK SV g cap Rs ⟨j, some d, some (s.getD d)⟩ it' r) (hno : s ≠ some d → d ≠ zE R' → it' = ⟨j, some d, some (s.getD d)⟩ ∧ r = some (j, d)) : zdK SV g cap Rs ⟨i, some c, s⟩ it' r := by
 intro base IT w hset hit hB
 have hnil := fun w a n c => Lib.run_eql_slice_nil (P := Tryz.prog) w 67 5 a n c 0 0 Tryz.underlying67
 have HSET := zh hset
 obtain ⟨vc, vs, hrow, hc, hs⟩ := hit.row
 have hc' : AdAt w vc c := hc
 have hgood := hset.good R (List.mem_of_getElem? hR)
 have hgood' := hset.good R' (List.mem_of_getElem? hR')
 obtain ⟨v0, v1, vi, vm, v4, hat, hhv⟩ := hset.els i R hR
 have HHV := zh hhv
 have HROW := zh hrow
 have HC := zh hc'
 have HS := zh hs
 have HCO := zh (hit.cok c rfl)
 have HSO := zh hit.sok
 obtain ⟨⟨b0, n0, k0, rfl⟩, ⟨b1, n1, k1, rfl⟩, ⟨b2, n2, k2, rfl⟩, ⟨b3, n3, k3, rfl⟩, ⟨b4, n4, k4, rfl⟩⟩ := hhv.slices
 obtain ⟨bs, ns, ks, rfl⟩ := hs.slice
 obtain ⟨bc, oc, nc, kc, rfl⟩ := hc'.slice
 obtain ⟨c0, c1, c2, c3, c4⟩ := hat
 have i0 := cell_of_row w IT 0 _ _ _ hrow
 have i1 := cell_of_row w IT 1 _ _ _ hrow
 have i2 := cell_of_row w IT 2 _ _ _ hrow
 have cS : w.cell? ⟨SV, 0, none⟩ = some (.slice (some ⟨g, 0, none⟩) Rs.length cap) := cell_of_row w SV 0 _ _ _ hset.row
 have q1 : (0 : Int) ≤ (i : Int) := by omega
 have q2 : (i : Int) < (Rs.length : Int) := by have := (List.getElem?_eq_some_iff.1 hR).1; omega
 have lI : IT < w.heap.size := (Array.getElem?_eq_some_iff.1 hrow).1
 have HR' := zh hR'
 have HRI := zh hR
 have HG := zh hgood
 have HG' := zh hgood'
 have HST := zh hstep
 have HSP := zh hstop
 have HY := zh hyes
 have HN := zh hno
 clear hset hit hrow hc hc' hs hgood hgood' hhv hR hR' hstep hstop hyes hno
 go_enter Tryz.func103, Tryz.ntmps103
 go_wp2_with fail
 go_region_held3 (fun w' => w'.cell? ⟨IT, 0, none⟩ = some (.pointer (some ⟨SV, 0, none⟩)) ∧ w'.cell? ⟨IT, 1, none⟩ = some (.int .i64 i) ∧ w'.cell? ⟨SV, 0, none⟩ = some (.slice (some ⟨g, 0, none⟩) Rs.length cap) ∧
  w'.cell? ⟨g, i * 5, none⟩ = some (.slice b0 n0 k0) ∧ w'.cell? ⟨g, i * 5 + 1, none⟩ = some (.slice b1 n1 k1) ∧ w'.cell? ⟨g, i * 5 + 2, none⟩ = some (.slice b2 n2 k2) ∧ w'.cell? ⟨g, i * 5 + 3, none⟩ = some (.slice b3 n3 k3) ∧ w'.cell? ⟨g, i * 5 + 4, none⟩ = some (.slice b4 n4 k4)) (go_keep) (fail)
 go_wp2_with fail
 have hbA : Below w.heap.size w (w.alloc (.cells #[.slice b0 n0 k0, .slice b1 n1 k1, .slice b2 n2 k2, .slice b3 n3 k3, .slice b4 n4 k4] 72)).drew := below_drewN ((Below.refl _ _).alloc (Nat.le_refl _) _) 1
 have hItA : (w.alloc (.cells #[.slice b0 n0 k0, .slice b1 n1 k1, .slice b2 n2 k2, .slice b3 n3 k3, .slice b4 n4 k4] 72)).drew.heap[IT]? = some (.cells #[.pointer (some ⟨SV, 0, none⟩), .int .i64 i, .slice (some ⟨bc, oc, none⟩) nc kc, .slice bs ns ks] 223 (0, 0)) := row_on hbA HROW.out
 have hNA : (w.alloc (.cells #[.slice b0 n0 k0, .slice b1 n1 k1, .slice b2 n2 k2, .slice b3 n3 k3, .slice b4 n4 k4] 72)).drew.heap[w.heap.size]? = some (.cells #[.slice b0 n0 k0, .slice b1 n1 k1, .slice b2 n2 k2, .slice b3 n3 k3, .slice b4 n4 k4] 72) := heap_alloc_new w _
 have HITA := zh hItA
 have HNA := zh hNA
 have HBA := zh hbA
 have hse := yB HG.out.k.oa HG.out.k.room HG.out.k.k1 HG.out.k.k2 HG.out.ok
 obtain ⟨b, hb⟩ : ∃ b, b = decide (c = zC R) := ⟨_, rfl⟩
 have hq : ∀ x : Kin (w.alloc (.cells #[.slice b0 n0 k0, .slice b1 n1 k1, .slice b2 n2 k2, .slice b3 n3 k3, .slice b4 n4 k4] 72)).drew, Calls Tryz.prog 68 #[.slice (some ⟨bc, oc, none⟩) nc kc, .slice b1 n1 k1] x.on (BelowPost x.on (.bool b)) := fun x => by
  rw [hb]
  exact yT _ _ _ _ x.on (HC.out.keep (below_tr hbA x.ok)) (.inr (BriefAt.keep HHV.out.he (below_tr hbA x.ok))) HCO.out hse.2
 have HE := zh (fun x => zV (fun _ _ h => h) (hq x))
 have kI : ∀ x : Kin (w.alloc (.cells #[.slice b0 n0 k0, .slice b1 n1 k1, .slice b2 n2 k2, .slice b3 n3 k3, .slice b4 n4 k4] 72)).drew, x.on.cell? ⟨IT, 2, none⟩ = some (.slice (some ⟨bc, oc, none⟩) nc kc) := zG (cell_of_row _ _ 2 _ _ _ hItA)
 have kN : ∀ x : Kin (w.alloc (.cells #[.slice b0 n0 k0, .slice b1 n1 k1, .slice b2 n2 k2, .slice b3 n3 k3, .slice b4 n4 k4] 72)).drew, x.on.cell? ⟨w.heap.size, 1, none⟩ = some (.slice b1 n1 k1) := zG (cell_of_row _ _ 1 _ _ _ hNA)
 have HBD := zh hb
 clear hse hbA hItA hNA hb hq c0 c1 c2 c3 c4 i0 i1 i2 cS
 refine xH (by kernel_rfl) (by kernel_rfl) ?_
 repeat (go_big_quiet_step (first | (go_at_call 68; exact HE.out _)))
 refine wpQuiet_nil ?_
 intro _ hw'
 obtain ⟨x, rfl⟩ := hw'
 have hItX := row_on x.ok HITA.out
 have hNX := row_on x.ok HNA.out
 have HBX := zh (below_tr HBA.out x.ok)
 have HITX := zh hItX
 have HNX := zh hNX
 clear kI kN HE HITA HNA HBA
 generalize x.on = wx at hItX hNX HBX HITX HNX ⊢
 have HSX := zh (HSET.out.on HBX.out)
 have i0 := cell_of_row wx IT 0 _ _ _ hItX
 have i1 := cell_of_row wx IT 1 _ _ _ hItX
 have i2 := cell_of_row wx IT 2 _ _ _ hItX
 have z1 := frozen_of_row wx IT 1 _ _ hItX
 have z2 := frozen_of_row wx IT 2 _ _ hItX
 have cS : wx.cell? ⟨SV, 0, none⟩ = some (.slice (some ⟨g, 0, none⟩) Rs.length cap) := cell_of_row wx SV 0 _ _ _ HSX.out.row
 clear hItX hNX
 go_upto_if 62 with fail
 go_cut [] (fun wz => Hid (NS w base IT SV w.heap.size j R' (some d) s wz))
 case first =>
  cases b with
  | true =>
   have hle := HSET.out.le
   have hmo := HSET.out.most
   have hst : j = (i + 1) % Rs.length ∧ d = zB R' := by
    rcases HST.out with ⟨_, h1, h2⟩ | ⟨h1, _⟩
    ·exact ⟨h1, h2⟩
    ·exact absurd (of_decide_eq_true HBD.out.symm) h1
   have hmod : Int.tmod ((i : Int) + 1) (Rs.length : Int) = (j : Int) := by
    rw [hst.1, show ((i : Int) + 1) = ((i + 1 : Nat) : Int) by omega, Int.tmod_eq_emod_of_nonneg (by omega)]
    rfl
   have hjl : j < Rs.length := (List.getElem?_eq_some_iff.1 HR'.out).1
   have hnl : ¬ Rs = [] := fun e => by rw [e] at hjl; simp at hjl
   have HSTP := zh hst
   have HMOD := zh hmod
   clear hst
   go_wp2_with fail
   have hItY : (wx.setCell ⟨IT, 1, none⟩ (.int .i64 ((i : Int) + 1))).heap[IT]? = some (.cells #[.pointer (some ⟨SV, 0, none⟩), .int .i64 ((i : Int) + 1), .slice (some ⟨bc, oc, none⟩) nc kc, .slice bs ns ks] 223 (0, 0)) := heap_setCell_same wx IT 1 _ _ _ HITX.out
   have hFY : Fr [223] base w (wx.setCell ⟨IT, 1, none⟩ (.int .i64 ((i : Int) + 1))) := (Fr.of_below HBX.out).trans (Fr.set HITX.out (by simp) hB (fun x => by rw [i1]; simp [u8v]))
   have hNY : (wx.setCell ⟨IT, 1, none⟩ (.int .i64 ((i : Int) + 1))).heap[w.heap.size]? = some (.cells #[.slice b0 n0 k0, .slice b1 n1 k1, .slice b2 n2 k2, .slice b3 n3 k3, .slice b4 n4 k4] 72 (0, 0)) := (Below.heap_setCell _ _ _ _ (by show w.heap.size ≠ IT; omega)).trans HNX.out
   clear i0 i1 i2 z1 z2 cS
   generalize wx.setCell ⟨IT, 1, none⟩ (.int .i64 ((i : Int) + 1)) = wy at hItY hFY hNY ⊢
   have HITY := zh hItY
   have HFY := zh hFY
   have HNY := zh hNY
   have HSY := zh (HSET.out.fr hFY (by decide) (by decide))
   have i0 := cell_of_row wy IT 0 _ _ _ hItY
   have i1 := cell_of_row wy IT 1 _ _ _ hItY
   have z1 := frozen_of_row wy IT 1 _ _ hItY
   have cS : wy.cell? ⟨SV, 0, none⟩ = some (.slice (some ⟨g, 0, none⟩) Rs.length cap) := cell_of_row wy SV 0 _ _ _ HSY.out.row
   have hne : ¬ SV = IT := yJ HSY.out.row hItY (by decide)
   have hne' : ¬ IT = SV := fun e => hne e.symm
   clear hItY hFY hNY
   refine xN (st := 14) (C := (fun w' => w'.cell? ⟨IT, 1, none⟩ = some (.int .i64 ((i : Int) + 1)))) (D := (fun w' => w'.cell? ⟨IT, 0, none⟩ = some (.pointer (some ⟨SV, 0, none⟩)) ∧ w'.cell? ⟨SV, 0, none⟩ = some (.slice (some ⟨g, 0, none⟩) Rs.length cap))) (by kernel_rfl) ?_ ?_ ?_
   ·exact ⟨i0, cS⟩
   ·exact i1
   refine takeD 0 70 ?v0x1 (by rfl) (by kernel_rfl) (by kernel_rfl) (by kernel_rfl) (by kernel_rfl) (by kernel_rfl) (fun _ _ _ _ h => h) (by kernel_rfl) ?hy0x1 ?nx0x1
   case hy0x1 =>
    intro w' hDw
    go_simp
    try with_reducible rfl
   simp only [sA, sB, sC]
   refine takeD 1 71 ?v1x2 (by rfl) (by kernel_rfl) (by kernel_rfl) (by kernel_rfl) (by kernel_rfl) (by kernel_rfl) (fun _ _ _ _ h => h) (by kernel_rfl) ?hy1x2 ?nx1x2
   case hy1x2 =>
    intro w' hDw
    go_simp
    try with_reducible rfl
   simp only [sA, sB, sC]
   refine takeD 2 72 ?v2x3 (by rfl) (by kernel_rfl) (by kernel_rfl) (by kernel_rfl) (by kernel_rfl) (by kernel_rfl) (fun _ _ _ _ h => h) (by kernel_rfl) ?hy2x3 ?nx2x3
   case hy2x3 =>
    intro w' hDw
    go_simp
    try with_reducible rfl
   simp only [sA, sB, sC]
   refine takeC 3 73 ?v3x4 (by rfl) (by kernel_rfl) (by kernel_rfl) (by kernel_rfl) (by kernel_rfl) (by kernel_rfl) (fun _ _ _ _ h => h) (by kernel_rfl) (by kernel_rfl) ?hy3x4 ?nx3x4
   case hy3x4 =>
    intro w' hCw hDw
    go_simp
    try with_reducible rfl
   simp only [sA, sB, sC]
   refine takeD 4 74 ?v4x5 (by rfl) (by kernel_rfl) (by kernel_rfl) (by kernel_rfl) (by kernel_rfl) (by kernel_rfl) (fun _ _ _ _ h => h) (by kernel_rfl) ?hy4x5 ?nx4x5
   case hy4x5 =>
    intro w' hDw
    go_simp
    try with_reducible rfl
   simp only [sA, sB, sC]
   refine takeD 5 75 ?v5x6 (by rfl) (by kernel_rfl) (by kernel_rfl) (by kernel_rfl) (by kernel_rfl) (by kernel_rfl) (fun _ _ _ _ h => h) (by kernel_rfl) ?hy5x6 ?nx5x6
   case hy5x6 =>
    intro w' hDw
    go_simp
    try with_reducible rfl
   simp only [sA, sB, sC]
   refine takeD 6 76 ?v6x7 (by rfl) (by kernel_rfl) (by kernel_rfl) (by kernel_rfl) (by kernel_rfl) (by kernel_rfl) (fun _ _ _ _ h => h) (by kernel_rfl) ?hy6x7 ?nx6x7
   case hy6x7 =>
    intro w' hDw
    go_simp
    try with_reducible rfl
   simp only [sA, sB, sC]
   refine takeD 7 77 ?v7x8 (by rfl) (by kernel_rfl) (by kernel_rfl) (by kernel_rfl) (by kernel_rfl) (by kernel_rfl) (fun _ _ _ _ h => h) (by kernel_rfl) ?hy7x8 ?nx7x8
   case hy7x8 =>
    intro w' hDw
    go_simp
    try with_reducible rfl
   simp only [sA, sB, sC]
   refine takeD 8 78 ?v8x9 (by rfl) (by kernel_rfl) (by kernel_rfl) (by kernel_rfl) (by kernel_rfl) (by kernel_rfl) (fun _ _ _ _ h => h) (by kernel_rfl) ?hy8x9 ?nx8x9
   case hy8x9 =>
    intro w' hDw
    go_simp
    try with_reducible rfl
   simp only [sA, sB, sC]
   refine takeD 9 79 ?v9x10 (by rfl) (by kernel_rfl) (by kernel_rfl) (by kernel_rfl) (by kernel_rfl) (by kernel_rfl) (fun _ _ _ _ h => h) (by kernel_rfl) ?hy9x10 ?nx9x10
   case hy9x10 =>
    intro w' hDw
    go_simp
    try with_reducible rfl
   simp only [sA, sB, sC]
   refine takeD 10 80 ?v10x11 (by rfl) (by kernel_rfl) (by kernel_rfl) (by kernel_rfl) (by kernel_rfl) (by kernel_rfl) (fun _ _ _ _ h => h) (by kernel_rfl) ?hy10x11 ?nx10x11
   case hy10x11 =>
    intro w' hDw
    go_simp
    try with_reducible rfl
   simp only [sA, sB, sC]
   refine takeD 11 81 ?v11x12 (by rfl) (by kernel_rfl) (by kernel_rfl) (by kernel_rfl) (by kernel_rfl) (by kernel_rfl) (fun _ _ _ _ h => h) (by kernel_rfl) ?hy11x12 ?nx11x12
   case hy11x12 =>
    intro w' hDw
    go_simp
    try with_reducible rfl
   simp only [sA, sB, sC]
   refine takeD 12 82 ?v12x13 (by rfl) (by kernel_rfl) (by kernel_rfl) (by kernel_rfl) (by kernel_rfl) (by kernel_rfl) (fun _ _ _ _ h => h) (by kernel_rfl) ?hy12x13 ?nx12x13
   case hy12x13 =>
    intro w' hDw
    go_simp
    try with_reducible rfl
   simp only [sA, sB, sC]
   refine takeD 13 83 ?v13x14 (by rfl) (by kernel_rfl) (by kernel_rfl) (by kernel_rfl) (by kernel_rfl) (by kernel_rfl) (fun _ _ _ _ h => h) (by kernel_rfl) ?hy13x14 ?nx13x14
   case hy13x14 =>
    intro w' hDw
    go_simp
    try with_reducible rfl
   simp only [sA, sB, sC]
   refine zdH 14 (by kernel_rfl) (by rfl) (by kernel_rfl) (fun K hK => ?_)
   go_simp
   refine hK.out _ _ ?_ ?_
   ·refine ⟨?_, ?_⟩ <;> (refine (World.cell?_setCell_other wy ⟨IT, 1, none⟩ _ _ (by first | (simp; done) | simp [hne'])).trans ?_; first | exact i0 | exact cS)
   clear hK K
   try simp only [Act.put]
   refine doneC (by kernel_rfl) ?_ _
   have hItV : (wy.setCell ⟨IT, 1, none⟩ (.int .i64 (j : Int))).drew.heap[IT]? = some (.cells #[.pointer (some ⟨SV, 0, none⟩), .int .i64 (j : Int), .slice (some ⟨bc, oc, none⟩) nc kc, .slice bs ns ks] 223 (0, 0)) := heap_setCell_same wy IT 1 _ _ _ HITY.out
   have hFV : Fr [223] base w (wy.setCell ⟨IT, 1, none⟩ (.int .i64 (j : Int))).drew := (HFY.out.trans (Fr.set HITY.out (by simp) hB (fun x => by rw [i1]; simp [u8v]))).then (below_drewN (Below.refl _ _) 1)
   have hNV : (wy.setCell ⟨IT, 1, none⟩ (.int .i64 (j : Int))).drew.heap[w.heap.size]? = some (.cells #[.slice b0 n0 k0, .slice b1 n1 k1, .slice b2 n2 k2, .slice b3 n3 k3, .slice b4 n4 k4] 72 (0, 0)) := (Below.heap_setCell _ _ _ _ (by show w.heap.size ≠ IT; omega)).trans HNY.out
   clear i0 i1 z1 cS hmod
   generalize (wy.setCell ⟨IT, 1, none⟩ (.int .i64 (j : Int))).drew = wv at hItV hFV hNV ⊢
   have HITV := zh hItV
   have HFV := zh hFV
   have HNV := zh hNV
   have HSV := zh (HSET.out.fr hFV (by decide) (by decide))
   obtain ⟨u0, u1, ui, um, u4, hau0, hhu⟩ := HSET.out.els j R' HR'.out
   have hau : RgAt wv g (j * 5) u0 u1 ui um u4 := by
    exact hau0.of_block (hFV.low g HSET.out.glo (Nat.lt_of_lt_of_le HSET.out.glo HSET.out.sz))
   have HHU := zh hhu
   obtain ⟨⟨x0, y0, w0, rfl⟩, ⟨x1, y1, w1, rfl⟩, ⟨x2, y2, w2, rfl⟩, ⟨x3, y3, w3, rfl⟩, ⟨x4, y4, w4, rfl⟩⟩ := hhu.slices
   obtain ⟨e0, e1, e2, e3, e4⟩ := hau
   have i0 : wv.cell? ⟨IT, 0, none⟩ = some (.pointer (some ⟨SV, 0, none⟩)) := cell_of_row wv IT 0 _ _ _ hItV
   have i1 : wv.cell? ⟨IT, 1, none⟩ = some (.int .i64 (j : Int)) := cell_of_row wv IT 1 _ _ _ hItV
   have i2 : wv.cell? ⟨IT, 2, none⟩ = some (.slice (some ⟨bc, oc, none⟩) nc kc) := cell_of_row wv IT 2 _ _ _ hItV
   have z2 := frozen_of_row wv IT 2 _ _ hItV
   have cS : wv.cell? ⟨SV, 0, none⟩ = some (.slice (some ⟨g, 0, none⟩) Rs.length cap) := cell_of_row wv SV 0 _ _ _ HSV.out.row
   obtain ⟨r0, r1, r2, r3, r4⟩ := row5_facts hNV
   have f0 := frozen_of_row wv w.heap.size 0 _ _ hNV
   have f1 := frozen_of_row wv w.heap.size 1 _ _ hNV
   have f2 := frozen_of_row wv w.heap.size 2 _ _ hNV
   have f3 := frozen_of_row wv w.heap.size 3 _ _ hNV
   have f4 := frozen_of_row wv w.heap.size 4 _ _ hNV
   have lg : g < w.heap.size := Nat.lt_of_lt_of_le HSET.out.glo HSET.out.sz
   have lS : SV < w.heap.size := (Array.getElem?_eq_some_iff.1 HSET.out.row).1
   have m1 : ¬ w.heap.size = IT := by omega
   have m2 : ¬ w.heap.size = SV := by omega
   have m3 : ¬ w.heap.size = g := by omega
   have q3 : (0 : Int) ≤ (j : Int) := by omega
   have q4 : (j : Int) < (Rs.length : Int) := by omega
   clear hItV hFV hNV hhu hau0
   go_wp2_with fail
   go_region_held3 (fun w' => w'.cell? ⟨IT, 0, none⟩ = some (.pointer (some ⟨SV, 0, none⟩)) ∧ w'.cell? ⟨IT, 1, none⟩ = some (.int .i64 (j : Int)) ∧ w'.cell? ⟨SV, 0, none⟩ = some (.slice (some ⟨g, 0, none⟩) Rs.length cap) ∧
    w'.cell? ⟨g, j * 5, none⟩ = some (.slice x0 y0 w0) ∧ w'.cell? ⟨g, j * 5 + 1, none⟩ = some (.slice x1 y1 w1) ∧ w'.cell? ⟨g, j * 5 + 2, none⟩ = some (.slice x2 y2 w2) ∧ w'.cell? ⟨g, j * 5 + 3, none⟩ = some (.slice x3 y3 w3) ∧ w'.cell? ⟨g, j * 5 + 4, none⟩ = some (.slice x4 y4 w4)) (go_keep) (fail)
   have hb5 : Below w.heap.size wv (((((wv.setCell ⟨w.heap.size, 0, none⟩ (.slice x0 y0 w0)).setCell ⟨w.heap.size, 1, none⟩ (.slice x1 y1 w1)).setCell ⟨w.heap.size, 2, none⟩ (.slice x2 y2 w2)).setCell ⟨w.heap.size, 3, none⟩ (.slice x3 y3 w3)).setCell ⟨w.heap.size, 4, none⟩ (.slice x4 y4 w4)).drew := below_drewN (below_set5 (Below.refl _ _) (Nat.le_refl _) _ _ _ _ _) 1
   have t1 := heap_setCell_same wv w.heap.size 0 _ _ (.slice x0 y0 w0) HNV.out
   have t2 := heap_setCell_same _ w.heap.size 1 _ _ (.slice x1 y1 w1) t1
   have t3 := heap_setCell_same _ w.heap.size 2 _ _ (.slice x2 y2 w2) t2
   have t4 := heap_setCell_same _ w.heap.size 3 _ _ (.slice x3 y3 w3) t3
   have hNW : (((((wv.setCell ⟨w.heap.size, 0, none⟩ (.slice x0 y0 w0)).setCell ⟨w.heap.size, 1, none⟩ (.slice x1 y1 w1)).setCell ⟨w.heap.size, 2, none⟩ (.slice x2 y2 w2)).setCell ⟨w.heap.size, 3, none⟩ (.slice x3 y3 w3)).setCell ⟨w.heap.size, 4, none⟩ (.slice x4 y4 w4)).drew.heap[w.heap.size]? = some (.cells #[.slice x0 y0 w0, .slice x1 y1 w1, .slice x2 y2 w2, .slice x3 y3 w3, .slice x4 y4 w4] 72 (0, 0)) := heap_setCell_same _ w.heap.size 4 _ _ (.slice x4 y4 w4) t4
   have hItW : (((((wv.setCell ⟨w.heap.size, 0, none⟩ (.slice x0 y0 w0)).setCell ⟨w.heap.size, 1, none⟩ (.slice x1 y1 w1)).setCell ⟨w.heap.size, 2, none⟩ (.slice x2 y2 w2)).setCell ⟨w.heap.size, 3, none⟩ (.slice x3 y3 w3)).setCell ⟨w.heap.size, 4, none⟩ (.slice x4 y4 w4)).drew.heap[IT]? = some (.cells #[.pointer (some ⟨SV, 0, none⟩), .int .i64 (j : Int), .slice (some ⟨bc, oc, none⟩) nc kc, .slice bs ns ks] 223 (0, 0)) := (hb5.block IT lI).trans HITV.out
   have hFW := HFV.out.then hb5
   clear t1 t2 t3 t4 hb5 r0 r1 r2 r3 r4 f0 f1 f2 f3 f4 i0 i1 i2 z2 cS e0 e1 e2 e3 e4
   generalize (((((wv.setCell ⟨w.heap.size, 0, none⟩ (.slice x0 y0 w0)).setCell ⟨w.heap.size, 1, none⟩ (.slice x1 y1 w1)).setCell ⟨w.heap.size, 2, none⟩ (.slice x2 y2 w2)).setCell ⟨w.heap.size, 3, none⟩ (.slice x3 y3 w3)).setCell ⟨w.heap.size, 4, none⟩ (.slice x4 y4 w4)).drew = wn at hNW hItW hFW ⊢
   have HNW := zh hNW
   have HITW := zh hItW
   have HFW := zh hFW
   have r0 : wn.cell? ⟨w.heap.size, 0, none⟩ = some (.slice x0 y0 w0) := cell_of_row wn _ 0 _ _ _ hNW
   have i2 : wn.cell? ⟨IT, 2, none⟩ = some (.slice (some ⟨bc, oc, none⟩) nc kc) := cell_of_row wn IT 2 _ _ _ hItW
   have z2 := frozen_of_row wn IT 2 _ _ hItW
   clear hNW hItW hFW
   go_wp2_with fail
   go_meet
   have hset : Fr [223] base wn (wn.setCell ⟨IT, 2, none⟩ (.slice x0 y0 w0)) := Fr.set HITW.out (by simp) hB (fun x => by rw [i2]; simp [u8v])
   have hF := HFW.out.trans hset
   have hd := HSTP.out.2
   subst hd
   have hse := yB HG'.out.k.oa HG'.out.k.room HG'.out.k.k1 HG'.out.k.k2 HG'.out.ok
   exact zh ⟨⟨⟨_, _, heap_setCell_same wn IT 2 _ _ _ HITW.out, .inr (IPAt.stay HHU.out.hs hF.bk), HS.out.stay hF.bk⟩, fun a h => by cases h; exact hse.1, HSO.out⟩,
    ⟨_, _, _, _, _, (Below.heap_setCell _ _ _ _ (by show w.heap.size ≠ IT; omega)).trans HNW.out, HHU.out.stay hF.bk⟩, hF⟩
  | false =>
   have hst : j = i ∧ d = c.up ∧ c.up.ok := by
    rcases HST.out with ⟨h1, _⟩ | ⟨_, h1, h2, h3⟩
    ·exact absurd h1 (of_decide_eq_false HBD.out.symm)
    ·exact ⟨h1, h2, h3⟩
   obtain ⟨rfl, rfl, hup⟩ := hst
   have HUP := zh hup
   clear hup
   go_wp2_with fail
   refine (NextIP_any _ c wx (HC.out.keep HBX.out) HCO.out HUP.out).mono ?_
   rintro e w2 ⟨v2, rfl, hv2, hb2⟩
   have HV2 := zh hv2
   have HB2 := zh hb2
   obtain ⟨b9, n9, k9, rfl⟩ := zK hv2.1
   have hIt2 := row_on hb2 HITX.out
   have HIT2 := zh hIt2
   have x2 := cell_of_row w2 IT 2 _ _ _ hIt2
   have y2 := frozen_of_row w2 IT 2 _ _ hIt2
   clear hv2 hb2 hIt2 i0 i1 i2 z1 z2 cS
   go_wp2_with fail
   go_meet
   have hset : Fr [223] base w2 (w2.setCell ⟨IT, 2, none⟩ (.slice b9 n9 k9)) := Fr.set HIT2.out (by simp) hB (fun x => by rw [x2]; simp [u8v])
   have hbw := below_tr HBX.out HB2.out
   have e : R' = R := by
    have h1 := HR'.out
    rw [HRI.out] at h1
    exact (Option.some.inj h1).symm
   subst e
   exact zh ⟨⟨⟨_, _, heap_setCell_same w2 IT 2 _ _ _ HIT2.out, .inr (IPAt.stay HV2.out hset.bk), (HS.out.keep hbw).stay hset.bk⟩, fun a h => by cases h; exact HUP.out, HSO.out⟩,
    ⟨_, _, _, _, _, (Below.heap_setCell _ _ _ _ (by show w.heap.size ≠ IT; omega)).trans (row_on HB2.out HNX.out), (HHV.out.on hbw).stay hset.bk⟩, (Fr.of_below hbw).trans hset⟩
 case rest =>
  have HX := zh hcut.out
  clear hcut i0 i1 i2 z1 z2 cS HBX HITX HNX HSX HC HS HROW HHV HCO HST
  obtain ⟨uc, us, hIt, huc, hus⟩ := HX.out.it.row
  obtain ⟨u0, u1, ui, um, u4, hN, hhu⟩ := HX.out.box
  have huc' : AdAt wc uc d := huc
  have HUC := zh huc'
  have HUS := zh hus
  have HIT := zh hIt
  have HNB := zh hN
  have HHU := zh hhu
  obtain ⟨⟨x0, y0, w0, rfl⟩, ⟨x1, y1, w1, rfl⟩, ⟨x2, y2, w2, rfl⟩, ⟨x3, y3, w3, rfl⟩, ⟨x4, y4, w4, rfl⟩⟩ := hhu.slices
  obtain ⟨bs', ns', ks', rfl⟩ := hus.slice
  obtain ⟨bc', oc', nc', kc', rfl⟩ := huc'.slice
  have HDO := zh (HX.out.it.cok d rfl)
  have i2 : wc.cell? ⟨IT, 2, none⟩ = some (.slice (some ⟨bc', oc', none⟩) nc' kc') := cell_of_row wc IT 2 _ _ _ hIt
  have i3 : wc.cell? ⟨IT, 3, none⟩ = some (.slice bs' ns' ks') := cell_of_row wc IT 3 _ _ _ hIt
  have z3 := frozen_of_row wc IT 3 _ _ hIt
  clear hIt huc huc' hus hN hhu
  go_upto_if 113 with fail
  go_cut [] (fun wz => Hid (s ≠ some d ∧ NS w base IT SV w.heap.size j R' (some d) (some (s.getD d)) wz))
  case first =>
   cases s with
   | none =>
    have hn : Value.slice bs' ns' ks' = .slice none 0 0 := HUS.out
    obtain ⟨rfl, rfl, rfl⟩ : bs' = none ∧ ns' = 0 ∧ ks' = 0 := by simpa using hn
    go_wp2_with fail
    go_meet
    have hset : Fr [223] base wc (wc.setCell ⟨IT, 3, none⟩ (.slice (some ⟨bc', oc', none⟩) nc' kc')) := Fr.set HIT.out (by simp) hB (fun x => by rw [i3]; simp [u8v])
    exact zh ⟨(fun h => by cases h), ⟨⟨_, _, heap_setCell_same wc IT 3 _ _ _ HIT.out, HUC.out.stay hset.bk, HUC.out.stay hset.bk⟩, fun a h => by cases h; exact HDO.out, fun a h => by cases h; exact HDO.out⟩,
     ⟨_, _, _, _, _, (Below.heap_setCell _ _ _ _ (by show w.heap.size ≠ IT; omega)).trans HNB.out, HHU.out.stay hset.bk⟩, HX.out.fr.trans hset⟩
   | some s0 =>
    have hs0 : AdAt wc (.slice bs' ns' ks') s0 := HUS.out
    have HS0 := zh hs0
    obtain ⟨b7, o7, n7, k7, he7⟩ := hs0.slice
    obtain ⟨rfl, rfl, rfl⟩ : bs' = some ⟨b7, o7, none⟩ ∧ ns' = n7 ∧ ks' = k7 := by simpa using he7
    obtain ⟨b, hb⟩ : ∃ b, b = decide (d = s0) := ⟨_, rfl⟩
    have hq : ∀ x : Kin wc, Calls Tryz.prog 68 #[.slice (some ⟨bc', oc', none⟩) nc' kc', .slice (some ⟨b7, o7, none⟩) ns' ks'] x.on (BelowPost x.on (.bool b)) := fun x => by
     rw [hb]
     exact yT _ _ _ _ x.on (HUC.out.keep x.ok) (hs0.keep x.ok) HDO.out (HSO.out s0 rfl)
    have HE := zh (fun x => zV (fun _ _ h => h) (hq x))
    have kI : ∀ x : Kin wc, x.on.cell? ⟨IT, 2, none⟩ = some (.slice (some ⟨bc', oc', none⟩) nc' kc') := zG i2
    have kJ : ∀ x : Kin wc, x.on.cell? ⟨IT, 3, none⟩ = some (.slice (some ⟨b7, o7, none⟩) ns' ks') := zG i3
    have HBD := zh hb
    clear hs0 hb hq he7
    go_wp2_with fail
    refine xH (by kernel_rfl) (by kernel_rfl) ?_
    repeat (go_big_quiet_step (first | (go_at_call 68; exact HE.out _)))
    refine wpQuiet_nil ?_
    intro _ hw'
    obtain ⟨x, rfl⟩ := hw'
    cases b with
    | true =>
     have hds := of_decide_eq_true HBD.out.symm
     subst hds
     obtain ⟨h1, h2⟩ := HSP.out rfl
     subst h1
     subst h2
     go_wp2_with fail
     go_ret2
     exact ⟨(HX.out.on x.ok).it, (HX.out.on x.ok).fr, rfl⟩
    | false =>
     go_wp2_with fail
     go_meet
     exact zh ⟨fun h => of_decide_eq_false HBD.out.symm (by cases h; rfl), HX.out.on x.ok⟩
  case rest =>
   have HX2 := zh hcut.out.2
   have HNE := zh hcut.out.1
   clear hcut i2 i3 z3 HUC HUS HIT HNB HHU HX HSP
   obtain ⟨uc, us, hIt, huc, hus⟩ := HX2.out.it.row
   obtain ⟨u0, u1, ui, um, u4, hN, hhu⟩ := HX2.out.box
   have huc' : AdAt wc uc d := huc
   have HUC := zh huc'
   have HIT := zh hIt
   have HNB := zh hN
   have HHU := zh hhu
   have hgo := xO HG'.out.k HG'.out.ok
   obtain ⟨⟨x0, y0, w0, rfl⟩, ⟨x1, y1, w1, rfl⟩, ⟨x2, y2, w2, rfl⟩, ⟨x3, y3, w3, rfl⟩, ⟨x4, y4, w4, rfl⟩⟩ := hhu.slices
   obtain ⟨bc', oc', nc', kc', rfl⟩ := huc'.slice
   obtain ⟨b, hb⟩ : ∃ b, b = decide (d = zE R') := ⟨_, rfl⟩
   have hq : ∀ x : Kin wc, Calls Tryz.prog 68 #[.slice (some ⟨bc', oc', none⟩) nc' kc', .slice x4 y4 w4] x.on (BelowPost x.on (.bool b)) := fun x => by
    rw [hb]
    exact yT _ _ _ _ x.on (HUC.out.keep x.ok) (.inr (BriefAt.keep HHU.out.hg x.ok)) HDO.out hgo
   have HE := zh (fun x => zV (fun _ _ h => h) (hq x))
   have kI : ∀ x : Kin wc, x.on.cell? ⟨IT, 2, none⟩ = some (.slice (some ⟨bc', oc', none⟩) nc' kc') := zG (cell_of_row _ _ 2 _ _ _ hIt)
   have kN : ∀ x : Kin wc, x.on.cell? ⟨w.heap.size, 4, none⟩ = some (.slice x4 y4 w4) := zG (cell_of_row _ _ 4 _ _ _ hN)
   have HBD := zh hb
   clear hIt huc huc' hus hN hhu hgo hb hq
   go_wp2_with fail
   refine xH (by kernel_rfl) (by kernel_rfl) ?_
   repeat (go_big_quiet_step (first | (go_at_call 68; exact HE.out _)))
   refine wpQuiet_nil ?_
   intro _ hw'
   obtain ⟨x, rfl⟩ := hw'
   have hItX := row_on x.ok HIT.out
   have hNX := row_on x.ok HNB.out
   have HHX := zh (HHU.out.on x.ok)
   have HFX := zh (HX2.out.on x.ok).fr
   have HIX := zh (HX2.out.on x.ok).it
   have HCX := zh (HUC.out.keep x.ok)
   clear kI kN HE HIT HNB HHU HX2 HUC
   generalize x.on = wx at hItX hNX HHX HFX HIX HCX ⊢
   have d2 : wx.cell? ⟨IT, 2, none⟩ = some (.slice (some ⟨bc', oc', none⟩) nc' kc') := cell_of_row wx IT 2 _ _ _ hItX
   have e3 : wx.cell? ⟨w.heap.size, 3, none⟩ = some (.slice x3 y3 w3) := cell_of_row wx _ 3 _ _ _ hNX
   have e4 : wx.cell? ⟨w.heap.size, 4, none⟩ = some (.slice x4 y4 w4) := cell_of_row wx _ 4 _ _ _ hNX
   clear hItX hNX
   cases b with
   | true =>
    have heq := of_decide_eq_true HBD.out.symm
    have HCALL := zh (HY.out HNE.out heq base IT wx (HSET.out.fr HFX.out (by decide) (by decide)) HIX.out hB)
    clear heq
    go_wp2_with fail
    refine HCALL.out.mono ?_
    rintro e w3 ⟨hit3, hf3, hres⟩
    have HI3 := zh hit3
    have HF3 := zh (HFX.out.trans hf3)
    clear hit3 hf3
    cases r with
    | none =>
     obtain rfl := hres
     go_wp2_with fail
     go_ret2
     exact ⟨HI3.out, HF3.out, rfl⟩
    | some p =>
     obtain ⟨i', a'⟩ := p
     obtain ⟨N, va, vm, v4', R1, hR', rfl, hn, ha, hm, hg4⟩ := hres
     have HRES := zh (And.intro hR' (And.intro hn (And.intro ha (And.intro hm hg4))))
     obtain ⟨b9, n9, k9, rfl⟩ := zK hg4.1
     clear hR' hn ha hm hg4
     go_wp2_with fail
     go_ret2
     obtain ⟨q1, q2, q3, q4, q5⟩ := HRES.out
     exact ⟨HI3.out, HF3.out, N, va, vm, _, R1, q1, rfl, q2, q3, q4, q5⟩
   | false =>
    have HNO := zh (HN.out HNE.out (of_decide_eq_false HBD.out.symm))
    go_wp2_with fail
    go_region_held3 (fun w' => w'.cell? ⟨IT, 2, none⟩ = some (.slice (some ⟨bc', oc', none⟩) nc' kc') ∧ w'.cell? ⟨w.heap.size, 3, none⟩ = some (.slice x3 y3 w3) ∧ w'.cell? ⟨w.heap.size, 4, none⟩ = some (.slice x4 y4 w4)) (go_keep) (fail)
    go_wp2_with fail
    go_ret2
    obtain ⟨rfl, rfl⟩ := HNO.out
    have hb := below_drewN ((Below.refl wx.heap.size wx).alloc (Nat.le_refl _) (.cells #[.slice (some ⟨bc', oc', none⟩) nc' kc', .slice x3 y3 w3] 75)) 1
    exact ⟨HIX.out.fr (ts := []) (base := 0) (Fr.of_below hb) (by simp), HFX.out.trans (Fr.of_below hb), wx.heap.size, _, _, _, R', HR'.out, rfl, heap_alloc_new wx _, HCX.out.keep hb, IPAt.keep HHX.out.mask hb, BriefAt.keep HHX.out.hg hb⟩
theorem zfH (SV g cap : Nat) (Rs : List RIn) {it it' : It} {r : Option (Nat × Ad)} (h : NextR Rs it it' r) : zdK SV g cap Rs it it' r := by
 induction h with
 | fresh hR hne => exact zcG SV g cap Rs _ _ _ _ _ hR (fun h => absurd h hne) (fun _ => ⟨rfl, rfl⟩)
 | freshGate hR he _ ih => exact zcG SV g cap Rs _ _ _ _ _ hR (fun _ => ih) (fun h => absurd he h)
 | stop hs =>
  cases hs with
  | wrap hR hR' => exact yV SV g cap Rs _ _ _ _ _ _ _ _ _ hR hR' (.inl ⟨rfl, rfl, rfl⟩) (fun _ => ⟨rfl, rfl⟩) (fun h => absurd rfl h) (fun h => absurd rfl h)
  | up hR hc hok => exact yV SV g cap Rs _ _ _ _ _ _ _ _ _ hR hR (.inr ⟨hc, rfl, rfl, hok⟩) (fun _ => ⟨rfl, rfl⟩) (fun h => absurd rfl h) (fun h => absurd rfl h)
 | go hs hne hR' hg =>
  cases hs with
  | wrap hR hR1 => exact yV SV g cap Rs _ _ _ _ _ _ _ _ _ hR hR' (.inl ⟨rfl, rfl, by rw [hR1] at hR'; cases hR'; rfl⟩) (fun h => absurd h hne) (fun _ h => absurd h hg) (fun _ _ => ⟨rfl, rfl⟩)
  | up hR hc hok => exact yV SV g cap Rs _ _ _ _ _ _ _ _ _ hR hR' (.inr ⟨hc, rfl, rfl, hok⟩) (fun h => absurd h hne) (fun _ h => absurd h hg) (fun _ _ => ⟨rfl, rfl⟩)
 | goGate hs hne hR' hg _ ih =>
  cases hs with
  | wrap hR hR1 => exact yV SV g cap Rs _ _ _ _ _ _ _ _ _ hR hR' (.inl ⟨rfl, rfl, by rw [hR1] at hR'; cases hR'; rfl⟩) (fun h => absurd h hne) (fun _ _ => ih) (fun _ h => absurd hg h)
  | up hR hc hok => exact yV SV g cap Rs _ _ _ _ _ _ _ _ _ hR hR' (.inr ⟨hc, rfl, rfl, hok⟩) (fun h => absurd h hne) (fun _ _ => ih) (fun _ h => absurd hg h)
def zlP (w : World) (C g n cap D : Nat) (Rs : List RIn) (e : Ending) (w' : World) : Prop :=
 zmQ w C g n cap D Rs e w' ∧ g < w'.heap.size ∧ (implB Rs = true → ∀ (i : Nat) (R : RIn), Rs[i]? = some R → ElV w' g i R)
theorem zeN (C g n cap D : Nat) (Rs : List RIn) (w : World) (h : SetIn w C g n cap Rs) (hD : w.heap[D]? = some (.cells #[.bool true] 4 (0, 0))) (hDg : D ≠ g) (hDC : D ≠ C) :
  Calls Tryz.prog 43 #[.func (.func 62) #[] #[.pointer (some ⟨C, 0, none⟩), .pointer (some ⟨D, 0, none⟩)]] w (zlP w C g n cap D Rs) := by
 have lg : g < w.heap.size := h.set.lt
 have lC : C < w.heap.size := (Array.getElem?_eq_some_iff.1 h.row).1
 have lD : D < w.heap.size := (Array.getElem?_eq_some_iff.1 hD).1
 have htb : Below w.heap.size w (yI w) := (Below.refl w.heap.size w).alloc (Nat.le_refl _) _
 have hD' : (yI w).heap[D]? = some (.cells #[.bool true] 4 (0, 0)) := (heap_alloc_old w _ lD).trans hD
 have hnew : (yI w).heap[w.heap.size]? = some (.cells #[.bool false] 4 (0, 0)) := heap_alloc_new w _
 refine (zfD _ _ w (Set1 (yI w) g D Rs) zgC (zjS C g n cap D Rs _ (h.on htb) hD' hDg) ?_).mono ?_
 ·rintro w' ⟨w1, hin, rfl⟩
  rw [Below.heap_setCell _ _ _ _ (by show w.heap.size ≠ D; omega), hin.1.block _ (by unfold yI; simp) (by simp; omega)]
  exact hnew
 ·rintro e w' ⟨rfl, w2, ⟨w1, hin, rfl⟩, rfl⟩
  have hg := hin.1
  have hrD : w1.heap[D]? = some (.cells #[.bool true] 4 (0, 0)) := by
   rw [hg.block D (by unfold yI; simp; omega) (by simpa using hDg)]
   exact hD'
  have hrC : w1.heap[C]? = some (.cells #[.slice (some ⟨g, 0, none⟩) n cap] 89 (0, 0)) := by
   rw [hg.block C (by unfold yI; simp; omega) (by simpa using h.ne)]
   exact (h.on htb).row
  have hDc := cell_of_row w1 D 0 _ _ _ hrD
  have hCc := cell_of_row w1 C 0 _ _ _ hrC
  refine ⟨⟨rfl, ?_, ?_, fun w0 hb b1 b2 => ?_⟩, ?_, fun hb i R hR => ?_⟩
  ·rw [World.cell?_setCell_other _ _ _ _ (by simp; try omega)]
   exact World.cell?_setCell_same _ _ _ hDc
  ·rw [World.cell?_setCell_other _ _ _ _ (by simp; try omega), World.cell?_setCell_other _ _ _ _ (by simp; try omega)]
   exact hCc
  ·have h2 : Below w0.heap.size w0 w1 := (below_tr hb htb).grown hg (Nat.le_trans hb.size htb.size) (fun j hj => by cases hj; exact b1)
   exact (h2.setCell b2 _).setCell (by have := hb.size; simpa using this) _
  ·have := hg.size
   have := htb.size
   simp
   omega
  ·obtain ⟨v0, v1, vi, vm, v4, h1, h2, h3, h4, h5, h6⟩ := (hin.2 hb).held i R (List.getElem?_eq_some_iff.1 hR).1 hR
   have hnew1 : w1.heap[w.heap.size]? = some (.cells #[.bool false] 4 (0, 0)) := by
    rw [hg.block _ (by unfold yI; simp) (by simp; omega)]
    exact hnew
   have hnew2 : (w1.setCell ⟨D, 0, none⟩ (.bool (implB Rs))).heap[w.heap.size]? = some (.cells #[.bool false] 4 (0, 0)) := (Below.heap_setCell _ _ _ _ (by show w.heap.size ≠ D; omega)).trans hnew1
   have hbk : Bk w1 ((w1.setCell ⟨D, 0, none⟩ (.bool (implB Rs))).setCell ⟨w.heap.size, 0, none⟩ (.bool true)) :=
    (Bk.set (fun x => by rw [hDc]; simp [u8v])).trans (Bk.set (fun x => by rw [cell_of_row _ _ 0 _ _ _ hnew2]; simp [u8v]))
   refine ⟨v0, v1, vi, vm, v4, h1.of_block ?_, ⟨IPAt.stay h2 hbk, IPAt.stay h3 hbk, IPAt.stay h5 hbk, IPAt.stay h6 hbk, IPAt.stay h4 hbk⟩⟩
   exact (Below.heap_setCell _ _ _ _ (by show g ≠ w.heap.size; omega)).trans (Below.heap_setCell _ _ _ _ (by show g ≠ D; omega))
def zkB (w : World) (Rs : List RIn) (e : Ending) (w' : World) : Prop :=
 ∃ v, e = .returned (.tuple #[v, .bool (implB Rs)]) ∧ Below w.heap.size w w' ∧ (implB Rs = true → ∃ g cap, v = .slice (some ⟨g, 0, none⟩) Rs.length cap ∧ Rs.length ≤ cap ∧ cap ≤ 9223372036854775807 ∧ g < w'.heap.size ∧ ∀ (i : Nat) (R : RIn), Rs[i]? = some R → ElV w' g i R)
theorem zgF (ao : Option Addr) (cap0 : Nat) (xs : List Tx) (Rs : List RIn) (w : World) (h : RgsV w ao xs) (hx : TxAll xs Rs) (h4 : xs.length ≤ 8) :
  Calls Tryz.prog 37 #[.slice ao xs.length cap0] w (zkB w Rs) := by
 have H := zh h
 have HX := zh hx
 clear h hx
 obtain ⟨i0, HI', hz⟩ := Option.map_eq_some_iff.1 zmR
 simp only [Prod.mk.injEq] at hz
 obtain ⟨hz0, hz1, hz2⟩ := hz
 have HI := zh HI'
 have HZ0 := zh hz0
 have HZ1 := zh hz1
 have HZ2 := zh hz2
 clear HI' hz0 hz1 hz2
 have t8 : decide ((xs.length : Int) ≤ 8) = true := decide_eq_true (by omega)
 go_enter Tryz.func37, Tryz.ntmps37
 go_wp2_with fail
 have H0 := zh (show OutR w Rs 0 w.heap.size 0 [] (((w.alloc (.cells #[] 72)).alloc (.cells #[.slice (some ⟨w.heap.size, 0, none⟩) 0 0] 89)).alloc (.cells #[.bool true] 4)) from by
  have e1 : (w.alloc (.cells #[] 72)).heap.size = w.heap.size + 1 := by simp
  have e2 : ((w.alloc (.cells #[] 72)).alloc (.cells #[.slice (some ⟨w.heap.size, 0, none⟩) 0 0] 89)).heap.size = w.heap.size + 2 := by simp
  have a1 := heap_alloc_new w (.cells #[] 72)
  have a2 := heap_alloc_new (w.alloc (.cells #[] 72)) (.cells #[.slice (some ⟨w.heap.size, 0, none⟩) 0 0] 89)
  have a3 := heap_alloc_new ((w.alloc (.cells #[] 72)).alloc (.cells #[.slice (some ⟨w.heap.size, 0, none⟩) 0 0] 89)) (.cells #[.bool true] 4)
  rw [e1] at a2
  rw [e2] at a3
  refine ⟨(heap_alloc_old _ _ (by simp)).trans a2, a3, ⟨rfl, Nat.le_refl _, Nat.le_refl _, by decide, #[], ?_, rfl, rfl, fun u hu => by cases hu⟩, by omega, by omega, fun i R hi => absurd hi (by omega), rfl, ((((Below.refl _ _).alloc (Nat.le_refl _) _).alloc (by simp) _).alloc (by simp; omega) _)⟩
  exact (heap_alloc_old _ _ (by simp; omega)).trans ((heap_alloc_old _ _ (by simp)).trans a1))
 go_loopw [16] (fun i wr => ∃ k : Nat, i = .int .i64 k ∧ k ≤ xs.length ∧ Hid (∃ g cap es, OutR w Rs k g cap es wr)) (fun i _ => xs.length - (intOf i).toNat)
 case atStart => exact ⟨0, rfl, by omega, zh ⟨_, _, _, H0.out⟩⟩
 case round =>
  obtain ⟨k, rfl, hk, hr⟩ := hrel
  obtain ⟨g, cap, es, ho⟩ := hr.out
  have HO := zh ho
  have cC : wr.cell? ⟨w.heap.size + 1, 0, none⟩ = some (.slice (some ⟨g, 0, none⟩) k cap) := cell_of_row wr _ 0 _ _ _ ho.rowC
  have cD : wr.cell? ⟨w.heap.size + 2, 0, none⟩ = some (.bool true) := cell_of_row wr _ 0 _ _ _ ho.rowD
  have lC : w.heap.size + 2 < wr.heap.size := (Array.getElem?_eq_some_iff.1 ho.rowD).1
  have hrD := ho.rowD
  have HRD := zh hrD
  clear ho hr hrD
  by_cases hlt : k < xs.length
  rotate_left
  ·have tk : decide ((k : Int) < xs.length) = false := decide_eq_false (by omega)
   have hIn : SetIn wr (w.heap.size + 1) g k cap Rs := HO.out.setIn (by have := HX.out.1; omega) (fun i R hr => by
    have hi : i < xs.length := by have := (List.getElem?_eq_some_iff.1 hr).1; have := HX.out.1; omega
    obtain ⟨S, h1, h2⟩ := HX.out.2 i (xs[i]'hi) (List.getElem?_eq_getElem hi)
    rw [hr] at h1; cases h1; exact h2.2.1)
   have HT := zh (fun n => zeN (w.heap.size + 1) g k cap (w.heap.size + 2) Rs (wr.drewN n) (hIn.on (below_drewN (Below.refl _ _) n)) HRD.out HO.out.ne2.symm (by omega))
   clear hIn
   go_wp2_with fail
   have hmf : ∀ (fn : Fn) (first cap : Array Value) (w : World), (Instr.makeFunc fn first cap).run Tryz.prog w = .ok (.func fn first cap) w := fun _ _ _ _ => rfl
   refine wp_region_held_drew (S := (fun w' => w'.cell? ⟨w.heap.size + 1, 0, none⟩ = some (.slice (some ⟨g, 0, none⟩) k cap))) (by kernel_rfl) ?_ (fun hHeld => ?_)
   ·go_keep
   refine zA 0 33 ?v0x1 (by rfl) (by kernel_rfl) (by kernel_rfl) (by kernel_rfl) (by kernel_rfl) (fun _ _ _ _ h => h) (by kernel_rfl) ?hy0x1 (by assumption) ?nx0x1
   case hy0x1 =>
    intro w' hSw
    go_simp
    try with_reducible rfl
   simp only [sA, sB, sC]
   refine wpAnyH_ready (rs := [1]) (by kernel_rfl) (by simp) (AllReadyH.cons (o := _) rfl (fun K hK => ?_) AllReadyH.nil)
   go_simp
   refine hK.out _ _ ?_ (fun hHeld => ?_)
   ·assumption
   clear hK K
   try simp only [Act.put, sA, sB, sC]
   refine zA 2 35 ?v2x2 (by rfl) (by kernel_rfl) (by kernel_rfl) (by kernel_rfl) (by kernel_rfl) (fun _ _ _ _ h => h) (by kernel_rfl) ?hy2x2 (by assumption) ?nx2x2
   case hy2x2 =>
    intro w' hSw
    go_simp
    try with_reducible rfl
   simp only [sA, sB, sC]
   refine zA 3 36 ?v3x3 (by rfl) (by kernel_rfl) (by kernel_rfl) (by kernel_rfl) (by kernel_rfl) (fun _ _ _ _ h => h) (by kernel_rfl) ?hy3x3 (by assumption) ?nx3x3
   case hy3x3 =>
    intro w' hSw
    go_simp
    try with_reducible rfl
   simp only [sA, sB, sC]
   refine wpAnyH_ready (rs := [4]) (by kernel_rfl) (by simp) (AllReadyH.cons (o := _) rfl (fun K hK => ?_) AllReadyH.nil)
   go_simp
   go_at_call 43
   refine (HT.out _).mono ?_
   rintro e w2 ⟨⟨rfl, cD2, cC2, hbel⟩, hgl, hels⟩
   have HEL := zh (And.intro hgl hels)
   clear hgl hels
   have HB2 := zh (hbel w (below_drewN HO.out.below _) HO.out.own.2.1 (by omega))
   clear hbel
   refine hK.out _ _ ?_ (fun hHeld => ?_)
   ·exact cC2
   clear hK K
   try simp only [Act.put, sA, sB, sC]
   refine zA 5 38 ?v5x4 (by rfl) (by kernel_rfl) (by kernel_rfl) (by kernel_rfl) (by kernel_rfl) (fun _ _ _ _ h => h) (by kernel_rfl) ?hy5x4 (by assumption) ?nx5x4
   case hy5x4 =>
    intro w' hSw
    go_simp
    try with_reducible rfl
   simp only [sA, sB, sC]
   refine zA 6 39 ?v6x5 (by rfl) (by kernel_rfl) (by kernel_rfl) (by kernel_rfl) (by kernel_rfl) (fun _ _ _ _ h => h) (by kernel_rfl) ?hy6x5 (by assumption) ?nx6x5
   case hy6x5 =>
    intro w' hSw
    go_simp
    try with_reducible rfl
   simp only [sA, sB, sC]
   refine zA 9 2 ?v9x6 (by rfl) (by kernel_rfl) (by kernel_rfl) (by kernel_rfl) (by kernel_rfl) (fun _ _ _ _ h => h) (by kernel_rfl) ?hy9x6 (by assumption) ?nx9x6
   case hy9x6 =>
    intro w' hSw
    go_simp
    try with_reducible rfl
   simp only [sA, sB, sC]
   refine wpAnyH_ready (rs := [7]) (by kernel_rfl) (by simp) (AllReadyH.cons (o := _) rfl (fun K hK => ?_) AllReadyH.nil)
   go_simp
   refine hK.out _ _ ?_ (fun hHeld => ?_)
   ·assumption
   clear hK K
   try simp only [Act.put, sA, sB, sC]
   refine zA 8 41 ?v8x7 (by rfl) (by kernel_rfl) (by kernel_rfl) (by kernel_rfl) (by kernel_rfl) (fun _ _ _ _ h => h) (by kernel_rfl) ?hy8x7 (by assumption) ?nx8x7
   case hy8x7 =>
    intro w' hSw
    go_simp
    try with_reducible rfl
   simp only [sA, sB, sC]
   refine zA 10 3 ?v10x8 (by rfl) (by kernel_rfl) (by kernel_rfl) (by kernel_rfl) (by kernel_rfl) (fun _ _ _ _ h => h) (by kernel_rfl) ?hy10x8 (by assumption) ?nx10x8
   case hy10x8 =>
    intro w' hSw
    go_simp
    try with_reducible rfl
   simp only [sA, sB, sC]
   refine wpAnyH_done (by kernel_rfl) ?_ _
   go_wp
   go_ret2
   have hkR : k = Rs.length := by have := HX.out.1; omega
   exact ⟨_, rfl, HB2.out, fun hb => ⟨g, cap, by rw [hkR]; rfl, by rw [← hkR]; exact HO.out.own.2.2.1, HO.out.own.2.2.2.1, HEL.out.1, fun i R hR => HEL.out.2 hb i R hR⟩⟩
  have tk : decide ((k : Int) < xs.length) = true := decide_eq_true (by omega)
  have hx : xs[k]? = some xs[k] := List.getElem?_eq_getElem hlt
  obtain ⟨R, hR, htx⟩ := HX.out.2 k _ hx
  obtain ⟨b, off, rfl, hbl, c0, c1, c2, c3⟩ := H.out.on HO.out.below k _ hx
  clear hx
  generalize xs[k] = x at *
  have HR := zh hR
  have HS := zh (fun w => rangeOf_any x.a x.b x.c x.d R w htx.1)
  clear hR htx
  go_wp2_with fail
  refine (HS.out _).mono ?_
  rintro e w2 ⟨v0, v1, vi, vm, v4, rfl, h0, h1, h4', hi, hm, hb2⟩
  have HO2 := zh (HO.out.on (below_tr ((Below.refl wr.heap.size wr).alloc (Nat.le_refl _) _) hb2))
  have HE := zh (show ElAt w2 ⟨v0, v1, vi, vm, v4⟩ R from ⟨h0, h1, h4', hi, hm⟩)
  obtain ⟨bs, ns, ks, rfl⟩ := h0.slice
  obtain ⟨be, ne, ke, rfl⟩ := h1.slice
  obtain ⟨bg, ng, kg, rfl⟩ := h4'.slice
  obtain ⟨bi, oi, ki, rfl, _⟩ := IPAt.out hi
  obtain ⟨bm, om, km, rfl, _⟩ := IPAt.out hm
  have e0 : w2.cell? ⟨w.heap.size + 1, 0, none⟩ = some (.slice (some ⟨g, 0, none⟩) k cap) := cell_of_row w2 _ 0 _ _ _ HO2.out.rowC
  have e1 : w2.cell? ⟨w.heap.size + 2, 0, none⟩ = some (.bool true) := cell_of_row w2 _ 0 _ _ _ HO2.out.rowD
  have lC2 : w.heap.size + 2 < w2.heap.size := (Array.getElem?_eq_some_iff.1 HO2.out.rowD).1
  have lC1 : w.heap.size + 1 < w2.heap.size := by omega
  clear h0 h1 h4' hi hm hb2 c0 c1 c2 c3 HS cC cD
  have hbA : Below w2.heap.size w2 ((w2.alloc (.cells #[.slice bs ns ks, .slice be ne ke, .slice (some ⟨bi, oi, none⟩) R.a.long.length ki, .slice (some ⟨bm, om, none⟩) (R.a.mask R.free).length km, .slice bg ng kg] 72)).alloc (.cells #[.slice bs ns ks, .slice be ne ke, .slice (some ⟨bi, oi, none⟩) R.a.long.length ki, .slice (some ⟨bm, om, none⟩) (R.a.mask R.free).length km, .slice bg ng kg] 72)) := ((Below.refl _ _).alloc (Nat.le_refl _) _).alloc (by simp) _
  have hnew := heap_alloc_new (w2.alloc (.cells #[.slice bs ns ks, .slice be ne ke, .slice (some ⟨bi, oi, none⟩) R.a.long.length ki, .slice (some ⟨bm, om, none⟩) (R.a.mask R.free).length km, .slice bg ng kg] 72)) (.cells #[.slice bs ns ks, .slice be ne ke, .slice (some ⟨bi, oi, none⟩) R.a.long.length ki, .slice (some ⟨bm, om, none⟩) (R.a.mask R.free).length km, .slice bg ng kg] 72)
  rw [show (w2.alloc (.cells #[.slice bs ns ks, .slice be ne ke, .slice (some ⟨bi, oi, none⟩) R.a.long.length ki, .slice (some ⟨bm, om, none⟩) (R.a.mask R.free).length km, .slice bg ng kg] 72)).heap.size = w2.heap.size + 1 by simp] at hnew
  have HNEW := zh (show ∀ (j : Nat) (u : Value), (El.vals ⟨.slice bs ns ks, .slice be ne ke, .slice (some ⟨bi, oi, none⟩) R.a.long.length ki, .slice (some ⟨bm, om, none⟩) (R.a.mask R.free).length km, .slice bg ng kg⟩)[j]? = some u → ((w2.alloc (.cells #[.slice bs ns ks, .slice be ne ke, .slice (some ⟨bi, oi, none⟩) R.a.long.length ki, .slice (some ⟨bm, om, none⟩) (R.a.mask R.free).length km, .slice bg ng kg] 72)).alloc (.cells #[.slice bs ns ks, .slice be ne ke, .slice (some ⟨bi, oi, none⟩) R.a.long.length ki, .slice (some ⟨bm, om, none⟩) (R.a.mask R.free).length km, .slice bg ng kg] 72)).cell? ((⟨w2.heap.size + 1, 0, none⟩ : Addr).add j) = some u from fun j u hu => by
   rw [Addr.add_lit, Nat.zero_add, cell_of_row _ _ j _ _ _ hnew, ← hu, List.getElem?_toArray]
   rfl)
  have HOA := zh (HO2.out.on hbA)
  have HEA := zh (HE.out.on hbA)
  clear hbA hnew
  go_wp2_with (focus (at_builtin; go_must (refine wpList_append_p _ rfl _ _ 89 rfl w.heap.size 72 i0 (.agg #[.slice none 0 0, .slice none 0 0, .slice none 0 0, .slice none 0 0, .slice none 0 0]) 5 120 isSl Tryz.underlying89 HI.out HZ0.out HZ1.out HZ2.out (by rfl) (by decide) zlO g k cap (flat5 es) rfl HOA.out.own ⟨w2.heap.size + 1, 0, none⟩ 1 1 _ rfl rfl HNEW.out (fun u hu => by obtain ⟨b, n, c, rfl⟩ := HEA.out.sl u hu; rfl) HEA.out.sl (by unfold maxLen; omega) (by omega) (by have := HOA.out.below.size; exact this) ?_)))
  intro g' cap' w3 hown hg hgg
  have HN := zh (HOA.out.next HR.out HEA.out hown hg (by simpa using hgg))
  have q1 : w3.heap[w.heap.size + 1]? = some (.cells #[.slice (some ⟨g, 0, none⟩) k cap] 89 (0, 0)) := by
   rw [hg.block _ (by simp; omega) (by simpa using HOA.out.ne1.symm)]; exact HOA.out.rowC
  have q2 : w3.heap[w.heap.size + 2]? = some (.cells #[.bool true] 4 (0, 0)) := by
   rw [hg.block _ (by simp; omega) (by simpa using HOA.out.ne2.symm)]; exact HOA.out.rowD
  have a1 := cell_of_row w3 _ 0 _ _ _ q1
  have a2 := cell_of_row w3 _ 0 _ _ _ q2
  have a3 := frozen_of_row w3 _ 0 _ _ q1
  have a4 := frozen_of_row w3 _ 0 _ _ q2
  clear hown hg hgg q1 q2 e0 e1
  go_wp2_with fail
  go_roundw
  case rel => exact ⟨k + 1, by simp, by omega, zh ⟨_, _, _, HN.out⟩⟩
  case measure => simp [intOf]; omega
end Go.Proofs.YtnehofekgnbelaaGreatDoor

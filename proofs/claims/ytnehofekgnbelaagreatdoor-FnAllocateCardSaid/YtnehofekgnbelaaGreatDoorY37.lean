/-
  Texts put together: Clone, Sto
-/
import Derived.Test.YtnehofekgnbelaaGreatDoorM14
import Derived.Test.YtnehofekgnbelaaGreatDoorM2
import Derived.Test.YtnehofekgnbelaaGreatDoorY21
import Derived.Test.YtnehofekgnbelaaGreatDoorY30
namespace Go.Proofs.YtnehofekgnbelaaGreatDoor
open Go.RowKit
set_option linter.unusedVariables false
set_option maxRecDepth 100000
set_option maxHeartbeats 1000000
def zlQ (w : World) (l : List UInt8) (e : Ending) (w' : World) : Prop := ∃ v', e = .returned v' ∧ IPAt w' v' l ∧ Below w.heap.size w w'
theorem zbN (v : Value) (l : List UInt8) (w : World) (h : IPAt w v l) (hl : l.length ≤ 1000) :
  Calls Tryz.prog 69 #[v] w (zlQ w l) := by
 have hnil := fun w a n c => Lib.run_eql_slice_nil (P := Tryz.prog) w 67 5 a n c 0 0 Tryz.underlying67
 obtain ⟨b, o, cap, rfl, lb, g1, g2, _⟩ := h.out
 have H := zh h
 obtain ⟨i0, hi, hz⟩ := Option.map_eq_some_iff.1 infoU8
 simp only [Prod.mk.injEq] at hz
 obtain ⟨hz0, hz1, hz2⟩ := hz
 have HI := zh hi
 have HZ0 := zh hz0
 have HZ1 := zh hz1
 have HZ2 := zh hz2
 have HP := h.2
 have HA := zh (show SlAt (w.alloc (.cells #[] 5)) (.slice (some ⟨b, o, none⟩) l.length cap) (ipv l) from H.out.1.keep ((Below.refl _ _).alloc (Nat.le_refl _) _))
 clear h hi hz0 hz1 hz2
 go_enter Tryz.func69, Tryz.ntmps69
 go_wp2_with (focus (at_builtin; go_must (refine wpList_append_sl _ rfl _ _ 67 rfl w.heap.size 5 i0 (.int .u8 0) 1 Tryz.underlying67 HI.out HZ0.out HZ1.out HZ2.out (by rfl) (.slice (some ⟨w.heap.size, 0, none⟩) 0 0) 0 [] rfl (World.ownsRow_lit w #[] 0 (Nat.le_refl _) (by decide) (by rfl)) (.slice (some ⟨b, o, none⟩) l.length cap) (ipv l) rfl HA.out (ipv_one l) (by rw [ipv_length]; unfold maxLen; omega) (by rw [ipv_length]; omega) (by simp) ?_)))
 intro v' w1 hown hg _
 have hs := SlAt.of_owns hown
 have HS := zh hs
 have HB := zh (((Below.refl w.heap.size w).alloc (Nat.le_refl _) (.cells #[] 5)).grown hg (by simp) (fun k hk => by simp [Value.ownBlock] at hk; omega))
 obtain ⟨ao, c, rfl, _⟩ := hs.len
 clear hown hg hs
 go_wp2_with fail
 go_ret
 exact ⟨_, rfl, ⟨HS.out, HP⟩, HB.out⟩
def zmS (w : World) (a : Ad) (e : Ending) (w' : World) : Prop := ∃ v', e = .returned v' ∧ AdAt w' v' a ∧ Below w.heap.size w w'
theorem zbO (v : Value) (a : Ad) (w : World) (h : AdAt w v a) :
  Calls Tryz.prog 69 #[v] w (zmS w a) := by
 rcases h with h | h
 ·exact (zbN v _ w h (by rw [Ad.long_length]; omega)).mono fun e w' ⟨v', h1, h2, h3⟩ => ⟨v', h1, .inl h2, h3⟩
 ·exact (zbN v _ w h (by rw [Ad.brief_length]; unfold Ad.width; split <;> omega)).mono fun e w' ⟨v', h1, h2, h3⟩ => ⟨v', h1, .inr h2, h3⟩
def isHd (u : Value) : Prop := (∃ b n c, u = .slice b n c) ∨ ∃ s, u = .string s
theorem hd_nb (x : UInt8) : ¬ isHd (u8v x) := by rintro (⟨_, _, _, h⟩ | ⟨_, h⟩) <;> simp [u8v] at h
structure HV where
 v : Value
 a : Ad
 id : ByteArray
 at_ : ByteArray
def HV.vals (h : HV) : List Value := [h.v, .string h.id, .string h.at_]
def flatH (hs : List HV) : List Value := hs.flatMap HV.vals
theorem yL (hs : List HV) (j c : Nat) (h : HV) (hj : hs[j]? = some h) (hc : c < 3) : (flatH hs)[j * 3 + c]? = h.vals[c]? := zbF HV.vals 3 (fun _ => rfl) hs j c h hj hc
theorem zlH : (Tryz.prog.info? 109).map (fun i => (i.zero, i.size, i.bytes)) = some (some (.agg #[.slice none 0 0, .string ⟨#[]⟩, .string ⟨#[]⟩]), 3, 56) := by kernel_rfl
theorem zeO (k : Nat) : ∀ u ∈ (Builtin.zeroCells (Value.agg #[.slice none 0 0, .string ⟨#[]⟩, .string ⟨#[]⟩]).cells k).toList, isHd u := by
 intro u hu
 unfold Builtin.zeroCells at hu
 simp only [Array.toList_map, List.mem_map] at hu
 obtain ⟨i, _, rfl⟩ := hu
 have hlt : i % 3 < 3 := Nat.mod_lt _ (by decide)
 show isHd (#[Value.slice none 0 0, .string ⟨#[]⟩, .string ⟨#[]⟩][i % 3]!)
 generalize i % 3 = j at hlt
 obtain rfl | rfl | rfl : j = 0 ∨ j = 1 ∨ j = 2 := by omega
 ·exact .inl ⟨_, _, _, rfl⟩
 ·exact .inr ⟨_, rfl⟩
 ·exact .inr ⟨_, rfl⟩
structure Sto (w : World) (base T : Nat) (hs : List HV) (last : Option Ad) : Prop where
 rows : ∃ hv lv, w.heap[T]? = some (.cells #[hv, lv] 96 (0, 0)) ∧ RowP w base 109 3 isHd hv hs.length (flatH hs) ∧ OptAt w lv last
 ents : ∀ h ∈ hs, AdAt w h.v h.a
 oks : ∀ h ∈ hs, h.a.ok
 lok : ∀ a, last = some a → a.ok
 lo : base ≤ T
theorem Sto.fr {ts : List Nat} {base T : Nat} {hs : List HV} {last : Option Ad} {w w' : World} (h : Sto w base T hs last) (hf : Fr ts base w w') (h1 : 109 ∉ ts) (h2 : 96 ∉ ts) : Sto w' base T hs last := by
 obtain ⟨hv, lv, hT, hr, hl⟩ := h.rows
 exact ⟨⟨hv, lv, hf.rows _ _ _ _ hT h2, hr.fr hf h1, hl.stay hf.bk⟩, fun x hx => (h.ents x hx).stay hf.bk, h.oks, h.lok, h.lo⟩
theorem Sto.on {base T : Nat} {hs : List HV} {last : Option Ad} {w w' : World} (h : Sto w base T hs last) (hb : Below w.heap.size w w') : Sto w' base T hs last :=
 h.fr (ts := []) (Fr.of_below hb) (by simp) (by simp)
theorem Sto.lt {base T : Nat} {hs : List HV} {last : Option Ad} {w : World} (h : Sto w base T hs last) : T < w.heap.size := by
 obtain ⟨hv, lv, hT, _⟩ := h.rows
 exact (Array.getElem?_eq_some_iff.1 hT).1
def tS : List Nat := [109, 96]
def zlR (w : World) (base T : Nat) (hs : List HV) (a : Ad) (id at_ : ByteArray) (e : Ending) (w' : World) : Prop :=
 ((∃ h ∈ hs, h.a = a) ∧ e = .returned (.tuple #[.bool false, .nilIface]) ∧ Below w.heap.size w w') ∨
 ((∀ h ∈ hs, h.a ≠ a) ∧ e = .returned (.tuple #[.bool true, .nilIface]) ∧ (∃ v, Sto w' base T (hs ++ [⟨v, a, id, at_⟩]) (some a)) ∧ Fr tS base w w')
theorem xP (base T : Nat) (hs : List HV) (last : Option Ad) (vi : Value) (a : Ad) (id at_ rid : ByteArray) (w : World) (h : Sto w base T hs last) (hi : AdAt w vi a) (ok : a.ok) (hn : hs.length ≤ 1000) (hB : base ≤ w.heap.size) :
  Calls Tryz.prog 40 #[.pointer (some ⟨T, 0, none⟩), .string id, .string at_, vi, .string rid] w (zlR w base T hs a id at_) := by
 have HS := zh h
 have HI := zh hi
 have HOK := zh ok
 obtain ⟨hv, lv, hT, hrow, hl⟩ := h.rows
 obtain ⟨ao, cap, rfl, hc1, hc2, hnone, hsome⟩ := hrow.form
 have HN := zh hnone
 have HSM := zh hsome
 have HT := zh hT
 have HROW := zh hrow
 have HL := zh hl
 have cT : w.cell? ⟨T, 0, none⟩ = some (.slice ao hs.length cap) := cell_of_row w T 0 _ _ _ hT
 have lT := h.lt
 obtain ⟨bv, ov, nv, cv, rfl⟩ := hi.slice
 obtain ⟨i0, hi', hz⟩ := Option.map_eq_some_iff.1 zlH
 simp only [Prod.mk.injEq] at hz
 obtain ⟨hz0, hz1, hz2⟩ := hz
 have HI0 := zh hi'
 have HZ0 := zh hz0
 have HZ1 := zh hz1
 have HZ2 := zh hz2
 unfold maxLen at hc2
 clear h hi ok hT hrow hl hnone hsome hi' hz0 hz1 hz2
 go_enter Tryz.func40, Tryz.ntmps40
 go_wp2_with fail
 go_loopw [19] (fun i wr => ∃ k : Nat, i = .int .i64 k ∧ k ≤ hs.length ∧ Hid (Below w.heap.size w wr ∧ ∀ (j : Nat) (x : HV), j < k → hs[j]? = some x → x.a ≠ a)) (fun i _ => hs.length - (intOf i).toNat)
 case atStart => exact ⟨0, rfl, by omega, zh ⟨Below.refl _ _, fun j x hj => absurd hj (by omega)⟩⟩
 case round =>
  obtain ⟨k, rfl, hk, hr⟩ := hrel
  by_cases hlt : k < hs.length
  ·have tk : decide ((k : Int) < hs.length) = true := decide_eq_true (by omega)
   obtain ⟨ad, hao⟩ : ∃ ad, ao = some ad := by
    cases ao with
    | none => have := (HN.out rfl).1; omega
    | some ad => exact ⟨ad, rfl⟩
   obtain ⟨g, hg, ho⟩ := HSM.out ad hao
   subst hg
   subst hao
   have hx : hs[k]? = some hs[k] := List.getElem?_eq_getElem hlt
   have hent := HS.out.ents _ (List.getElem_mem hlt)
   have hokx := HS.out.oks _ (List.getElem_mem hlt)
   have hcell : ∀ c, c < 3 → wr.cell? ⟨g, k * 3 + c, none⟩ = hs[k].vals[c]? := fun c hc => by
    rw [hr.out.1.cell ho.lt, ho.cell (k * 3 + c) (by omega), yL hs k c _ hx hc]
   generalize hs[k] = x at *
   obtain ⟨ev, ea, eid, eat⟩ := x
   have c0 : wr.cell? ⟨g, k * 3, none⟩ = some ev := hcell 0 (by decide)
   have c1 : wr.cell? ⟨g, k * 3 + 1, none⟩ = some (.string eid) := hcell 1 (by decide)
   have c2 : wr.cell? ⟨g, k * 3 + 2, none⟩ = some (.string eat) := hcell 2 (by decide)
   have HX := zh hx
   obtain ⟨be, oe, ne, ce, rfl⟩ := AdAt.slice hent
   obtain ⟨d, hd⟩ : ∃ d : Bool, d = decide (ea = a) := ⟨_, rfl⟩
   have HEQ := zh (fun (W : World) (hb : Below w.heap.size w W) => show Calls Tryz.prog 68 #[.slice (some ⟨be, oe, none⟩) ne ce, .slice (some ⟨bv, ov, none⟩) nv cv] W (BelowPost W (.bool d)) from by
    rw [hd]; exact yT _ _ ea a W (hent.keep hb) (HI.out.keep hb) hokx HOK.out)
   have HD := zh hd
   have q1 : (0 : Int) ≤ (k : Int) := by omega
   clear hcell hent hokx ho hd hx
   go_wp2_with fail
   refine (HEQ.out _ (hr.out.1.alloc hr.out.1.size _)).mono ?_
   rintro e w2 ⟨rfl, hb2⟩
   have HB2 := zh (below_tr (hr.out.1.alloc hr.out.1.size _) hb2)
   clear hb2 c0 c1 c2
   cases d with
   | true =>
    go_wp2_with fail
    go_ret2
    exact .inl ⟨⟨_, List.mem_of_getElem? HX.out, (of_decide_eq_true HD.out.symm)⟩, rfl, HB2.out⟩
   | false =>
    go_wp2_with fail
    go_roundw
    case rel => exact ⟨k + 1, by simp, by omega, zh ⟨HB2.out, fun j x hj hjx => by
     by_cases e : j = k
     ·subst e
      rw [HX.out] at hjx
      cases hjx
      exact of_decide_eq_false HD.out.symm
     ·exact hr.out.2 j x (by omega) hjx⟩⟩
    case measure => simp [intOf]; omega
  ·obtain rfl : k = hs.length := by omega
   have tk : decide ((hs.length : Int) < hs.length) = false := decide_eq_false (by omega)
   have cT2 : wr.cell? ⟨T, 0, none⟩ = some (.slice ao hs.length cap) := (hr.out.1.cell (p := ⟨T, 0, none⟩) lT).trans cT
   have HB := zh hr.out.1
   have HALL := zh (show ∀ h ∈ hs, h.a ≠ a from fun x hx => by
    obtain ⟨j, hj⟩ := List.getElem?_of_mem hx
    exact hr.out.2 j x (List.getElem?_eq_some_iff.1 hj).1 hj)
   have HCL := zh (fun (W : World) (hb : Bk w W) => zbO _ a W (HI.out.stay hb))
   clear hr cT
   go_wp2_with fail
   refine xN (st := 14) (C := (fun w' => w'.cell? ⟨T, 0, none⟩ = some (.slice ao hs.length cap))) (D := (fun _ => True)) (by kernel_rfl) ?_ ?_ ?_
   ·trivial
   ·exact cT2
   refine takeD 0 28 ?v0x1 (by rfl) (by kernel_rfl) (by kernel_rfl) (by kernel_rfl) (by kernel_rfl) (by kernel_rfl) (fun _ _ _ _ h => h) (by kernel_rfl) ?hy0x1 ?nx0x1
   case hy0x1 =>
    intro w' hDw
    go_simp
    try with_reducible rfl
   simp only [sA, sB, sC]
   refine takeD 1 29 ?v1x2 (by rfl) (by kernel_rfl) (by kernel_rfl) (by kernel_rfl) (by kernel_rfl) (by kernel_rfl) (fun _ _ _ _ h => h) (by kernel_rfl) ?hy1x2 ?nx1x2
   case hy1x2 =>
    intro w' hDw
    go_simp
    try with_reducible rfl
   simp only [sA, sB, sC]
   refine takeD 2 30 ?v2x3 (by rfl) (by kernel_rfl) (by kernel_rfl) (by kernel_rfl) (by kernel_rfl) (by kernel_rfl) (fun _ _ _ _ h => h) (by kernel_rfl) ?hy2x3 ?nx2x3
   case hy2x3 =>
    intro w' hDw
    go_simp
    try with_reducible rfl
   simp only [sA, sB, sC]
   refine takeD 3 31 ?v3x4 (by rfl) (by kernel_rfl) (by kernel_rfl) (by kernel_rfl) (by kernel_rfl) (by kernel_rfl) (fun _ _ _ _ h => h) (by kernel_rfl) ?hy3x4 ?nx3x4
   case hy3x4 =>
    intro w' hDw
    go_simp
    try with_reducible rfl
   simp only [sA, sB, sC]
   refine takeC 4 32 ?v4x5 (by rfl) (by kernel_rfl) (by kernel_rfl) (by kernel_rfl) (by kernel_rfl) (by kernel_rfl) (fun _ _ _ _ h => h) (by kernel_rfl) (by kernel_rfl) ?hy4x5 ?nx4x5
   case hy4x5 =>
    intro w' hCw hDw
    go_simp
    try with_reducible rfl
   simp only [sA, sB, sC]
   refine takeD 5 33 ?v5x6 (by rfl) (by kernel_rfl) (by kernel_rfl) (by kernel_rfl) (by kernel_rfl) (by kernel_rfl) (fun _ _ _ _ h => h) (by kernel_rfl) ?hy5x6 ?nx5x6
   case hy5x6 =>
    intro w' hDw
    go_simp
    try with_reducible rfl
   simp only [sA, sB, sC]
   refine takeD 7 35 ?v7x7 (by rfl) (by kernel_rfl) (by kernel_rfl) (by kernel_rfl) (by kernel_rfl) (by kernel_rfl) (fun _ _ _ _ h => h) (by kernel_rfl) ?hy7x7 ?nx7x7
   case hy7x7 =>
    intro w' hDw
    go_simp
    try with_reducible rfl
   simp only [sA, sB, sC]
   refine takeD 8 36 ?v8x8 (by rfl) (by kernel_rfl) (by kernel_rfl) (by kernel_rfl) (by kernel_rfl) (by kernel_rfl) (fun _ _ _ _ h => h) (by kernel_rfl) ?hy8x8 ?nx8x8
   case hy8x8 =>
    intro w' hDw
    go_simp
    try with_reducible rfl
   simp only [sA, sB, sC]
   refine zdG 6 (by kernel_rfl) (by rfl) (fun K hK => ?_)
   go_simp
   go_at_call 69
   refine (HCL.out _ (Bk.of_below (below_drewN HB.out 1))).mono ?_
   rintro e w2 ⟨v2, rfl, hv2, hb2⟩
   have HV2 := zh hv2
   have HB2 := zh (below_tr (below_drewN HB.out 1) hb2)
   obtain ⟨b2, o2, n2, k2, rfl⟩ := hv2.slice
   have cT3 : w2.cell? ⟨T, 0, none⟩ = some (.slice ao hs.length cap) := (HB2.out.cell (p := ⟨T, 0, none⟩) lT).trans (cell_of_row w T 0 _ _ _ HT.out)
   clear hv2 hb2
   refine hK.out _ _ ?_ ?_ ?_
   ·trivial
   ·exact cT3
   clear hK K
   try simp only [Act.put, sA, sB, sC]
   refine takeD 9 37 ?v9x9 (by rfl) (by kernel_rfl) (by kernel_rfl) (by kernel_rfl) (by kernel_rfl) (by kernel_rfl) (fun _ _ _ _ h => h) (by kernel_rfl) ?hy9x9 ?nx9x9
   case hy9x9 =>
    intro w' hDw
    go_simp
    try with_reducible rfl
   simp only [sA, sB, sC]
   refine zdG 10 (by kernel_rfl) (by rfl) (fun K hK => ?_)
   go_simp
   refine hK.out _ _ ?_ ?_ ?_
   ·trivial
   ·go_keep
   clear hK K
   try simp only [Act.put, sA, sB, sC]
   have HNEW := zh (show ∀ (j : Nat) (u : Value), ([Value.slice (some ⟨b2, o2, none⟩) n2 k2, .string id, .string at_] : List Value)[j]? = some u → (w2.alloc (.cells #[.slice (some ⟨b2, o2, none⟩) n2 k2, .string id, .string at_] 109)).cell? ((⟨w2.heap.size, 0, none⟩ : Addr).add j) = some u from fun j u hu => by
    rw [Addr.add_lit, Nat.zero_add, cell_of_row _ _ j _ _ _ (heap_alloc_new w2 _), ← hu, List.getElem?_toArray])
   have HBA := zh (HB2.out.alloc HB2.out.size (.cells #[.slice (some ⟨b2, o2, none⟩) n2 k2, .string id, .string at_] 109))
   have HROW2 := zh (HROW.out.on HBA.out)
   refine zdG 11 (by kernel_rfl) (by rfl) (fun K hK => ?_)
   refine zW _ (by rfl) _ _ 94 (by rfl) base 109 i0 (.agg #[.slice none 0 0, .string ⟨#[]⟩, .string ⟨#[]⟩]) 3 56 isHd Tryz.underlying94 HI0.out HZ0.out HZ1.out HZ2.out (by rfl) (by decide) zeO (.slice ao hs.length cap) hs.length (flatH hs) (by rfl) HROW2.out ⟨w2.heap.size, 0, none⟩ 1 1 [.slice (some ⟨b2, o2, none⟩) n2 k2, .string id, .string at_] (by rfl) (by rfl) HNEW.out (fun u hu => ?_) (fun u hu => ?_) (by decide) (by unfold maxLen; omega) (by omega) (Nat.le_trans hB HBA.out.size) ?_
   ·simp only [List.mem_cons, List.not_mem_nil, or_false] at hu
    rcases hu with rfl | rfl | rfl <;> rfl
   ·simp only [List.mem_cons, List.not_mem_nil, or_false] at hu
    rcases hu with rfl | rfl | rfl
    ·exact .inl ⟨_, _, _, rfl⟩
    ·exact .inr ⟨_, rfl⟩
    ·exact .inr ⟨_, rfl⟩
   intro g' cap' w3 hown hg hgg
   have HFR := zh (show Fr tS base (w2.alloc (.cells #[.slice (some ⟨b2, o2, none⟩) n2 k2, .string id, .string at_] 109)) w3 from HROW2.out.fr_grown hd_nb (by simp [tS]) hg)
   have HOWN := zh hown
   have hT3 : w3.heap[T]? = some (.cells #[.slice ao hs.length cap, lv] 96 (0, 0)) := by
    rw [hg.block T (Nat.lt_of_lt_of_le lT HBA.out.size) (fun e => ?_)]
    ·exact (HBA.out.block T lT).trans HT.out
    ·rcases HROW2.out with ⟨h0, _⟩ | ⟨g0, c0, h0, ho⟩
     ·rw [h0] at e
      simp [Value.ownBlock] at e
     ·rw [h0] at e
      have e' : T = g0 := by simpa [Value.ownBlock] using e
      obtain ⟨_, _, _, _, cur, h5, _⟩ := ho
      exact yJ ((HBA.out.block T lT).trans HT.out) h5 (by decide) e'
   have HT3 := zh hT3
   have cT4 := cell_of_row w3 T 0 _ _ _ hT3
   have zT4 := frozen_of_row w3 T 0 _ _ hT3
   clear hown hg hgg hT3
   refine hK.out _ _ ?_ ?_ ?_
   ·trivial
   ·exact cT4
   clear hK K
   try simp only [Act.put, List.setIfInBounds_toArray]
   refine takeD 12 40 ?v12x10 (by rfl) (by kernel_rfl) (by kernel_rfl) (by kernel_rfl) (by kernel_rfl) (by kernel_rfl) (fun _ _ _ _ h => h) (by kernel_rfl) ?hy12x10 ?nx12x10
   case hy12x10 =>
    intro w' hDw
    go_simp
    try with_reducible rfl
   simp only [sA, sB, sC]
   refine takeD 13 41 ?v13x11 (by rfl) (by kernel_rfl) (by kernel_rfl) (by kernel_rfl) (by kernel_rfl) (by kernel_rfl) (fun _ _ _ _ h => h) (by kernel_rfl) ?hy13x11 ?nx13x11
   case hy13x11 =>
    intro w' hDw
    go_simp
    try with_reducible rfl
   simp only [sA, sB, sC]
   refine zdH 14 (by kernel_rfl) (by rfl) (by kernel_rfl) (fun K hK => ?_)
   go_simp
   refine hK.out _ _ ?_ ?_
   ·trivial
   clear hK K
   try simp only [Act.put]
   refine doneC (by kernel_rfl) ?_ _
   have nT4 : ∀ x : UInt8, w3.cell? ⟨T, 0, none⟩ ≠ some (u8v x) := fun x => by rw [cT4]; simp [u8v]
   have HF4 := zh (show Fr tS base w (w3.setCell ⟨T, 0, none⟩ (.slice (some ⟨g', 0, none⟩) (hs.length + 1) cap')) from ((Fr.of_below HBA.out).trans HFR.out).trans (Fr.set HT3.out (by simp [tS]) HS.out.lo nT4))
   have HG4 := zh (show Fr [96] base w3 (w3.setCell ⟨T, 0, none⟩ (.slice (some ⟨g', 0, none⟩) (hs.length + 1) cap')) from Fr.set HT3.out (by simp) HS.out.lo nT4)
   have HT4 := zh (show (w3.setCell ⟨T, 0, none⟩ (.slice (some ⟨g', 0, none⟩) (hs.length + 1) cap')).heap[T]? = some (.cells #[.slice (some ⟨g', 0, none⟩) (hs.length + 1) cap', lv] 96 (0, 0)) from heap_setCell_same w3 T 0 _ _ _ HT3.out)
   clear nT4 cT4 zT4
   go_wp2_with fail
   refine (HCL.out _ HF4.out.bk).mono ?_
   rintro e w5 ⟨v5, rfl, hv5, hb5⟩
   have HV5 := zh hv5
   have HB5 := zh hb5
   obtain ⟨b5, o5, n5, k5, rfl⟩ := hv5.slice
   have hT5 := row_on hb5 HT4.out
   have HT5 := zh hT5
   have cT5 := cell_of_row w5 T 1 _ _ _ hT5
   have zT5 := frozen_of_row w5 T 1 _ _ hT5
   clear hv5 hb5 hT5
   go_wp2_with fail
   go_ret2
   have nT5 : ∀ x : UInt8, w5.cell? ⟨T, 1, none⟩ ≠ some (u8v x) := fun x => by
    obtain ⟨bl, nl, cl, hl⟩ := HL.out.slice
    rw [cell_of_row w5 T 1 _ _ _ HT5.out, hl]
    simp [u8v]
   have hset : Fr [96] base w5 (w5.setCell ⟨T, 1, none⟩ (.slice (some ⟨b5, o5, none⟩) n5 k5)) := Fr.set HT5.out (by simp) HS.out.lo nT5
   have hG : Fr [96] base w3 (w5.setCell ⟨T, 1, none⟩ (.slice (some ⟨b5, o5, none⟩) n5 k5)) := (HG4.out.trans (Fr.of_below HB5.out)).trans hset
   have hF : Fr tS base w (w5.setCell ⟨T, 1, none⟩ (.slice (some ⟨b5, o5, none⟩) n5 k5)) := (HF4.out.trans (Fr.of_below HB5.out)).trans (hset.mono (fun t ht => by simp at ht; simp [tS, ht]))
   have hF2 : Fr tS base w2 (w5.setCell ⟨T, 1, none⟩ (.slice (some ⟨b5, o5, none⟩) n5 k5)) := ((Fr.of_below ((Below.refl _ _).alloc (Nat.le_refl _) _)).trans HFR.out).trans (hG.mono (fun t ht => by simp at ht; simp [tS, ht]))
   refine .inr ⟨HALL.out, rfl, ⟨.slice (some ⟨b2, o2, none⟩) n2 k2, ⟨⟨_, _, heap_setCell_same w5 T 1 _ _ _ HT5.out, .inr ⟨g', cap', by simp, ?_⟩, ?_⟩, fun x hx => ?_, fun x hx => ?_, fun x hx => ?_, HS.out.lo⟩⟩, hF⟩
   ·have := HOWN.out.fr hG (by simp)
    rw [show (hs ++ [(⟨.slice (some ⟨b2, o2, none⟩) n2 k2, a, id, at_⟩ : HV)]).length = hs.length + 1 by simp, show flatH (hs ++ [(⟨.slice (some ⟨b2, o2, none⟩) n2 k2, a, id, at_⟩ : HV)]) = flatH hs ++ [.slice (some ⟨b2, o2, none⟩) n2 k2, .string id, .string at_] by simp [flatH, HV.vals]]
    exact this
   ·exact AdAt.stay HV5.out hset.bk
   ·rcases List.mem_append.1 hx with hx | hx
    ·exact (HS.out.ents x hx).stay hF.bk
    ·obtain rfl := List.mem_singleton.1 hx
     exact AdAt.stay HV2.out hF2.bk
   ·rcases List.mem_append.1 hx with hx | hx
    ·exact HS.out.oks x hx
    ·obtain rfl := List.mem_singleton.1 hx
     exact HOK.out
   ·cases hx
    exact HOK.out
end Go.Proofs.YtnehofekgnbelaaGreatDoor

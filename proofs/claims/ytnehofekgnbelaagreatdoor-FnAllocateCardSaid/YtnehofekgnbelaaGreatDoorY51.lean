/-
  laws.FnAllocate returns true.
-/
import Derived.Test.YtnehofekgnbelaaGreatDoorY45
import Derived.Test.YtnehofekgnbelaaGreatDoorY50
namespace Go.Proofs.YtnehofekgnbelaaGreatDoor
open Go.RowKit
set_option linter.unusedVariables false
set_option maxRecDepth 100000
set_option maxHeartbeats 1000000
theorem zjI : ∃ f g h : Field, (Tryz.prog.fieldsOf 41).toList = [f, g, h] ∧ (f.name ≠ "_" ∧ g.name ≠ "_" ∧ h.name ≠ "_") ∧ (f.offset = 0 ∧ g.offset = 1 ∧ h.offset = 2) ∧ f.type = 9 ∧ g.type = 9 ∧ h.type = 4 := by
 refine ⟨(Tryz.prog.fieldsOf 41)[0]!, (Tryz.prog.fieldsOf 41)[1]!, (Tryz.prog.fieldsOf 41)[2]!, by kernel_rfl, ⟨by decide +kernel, by decide +kernel, by decide +kernel⟩, ⟨by kernel_rfl, by kernel_rfl, by kernel_rfl⟩, by kernel_rfl, by kernel_rfl, by kernel_rfl⟩
theorem zgY (w : World) (x y : ByteArray) (b : Bool) : (binOp .neq 41 (.agg #[.string x, .string y, .bool b]) (.agg #[.string x, .string y, .bool b])).run Tryz.prog w = .ok (.bool false) w := by
 have h1 : Tryz.prog.underlying 41 = some (.struct (Tryz.prog.fieldsOf 41)) := by kernel_rfl
 have h2 : Tryz.prog.stoodInHeld 41 = false := by kernel_rfl
 rw [run_neq_struct, run_equalIn_agg w 9999 _ _ _ h1 h2]
 obtain ⟨f, g, h, hf, ⟨n1, n2, n3⟩, ⟨o1, o2, o3⟩, t1, t2, t3⟩ := zjI
 rw [hf]
 have u1 : Tryz.prog.underlying 9 = some .string := by kernel_rfl
 have u2 : Tryz.prog.underlying 4 = some .bool := by kernel_rfl
 have p1 : ∀ w, (part 9 #[.string x, .string y, .bool b] 0).run Tryz.prog w = .ok (.string x) w := fun w => by kernel_rfl
 have p2 : ∀ w, (part 9 #[.string x, .string y, .bool b] 1).run Tryz.prog w = .ok (.string y) w := fun w => by kernel_rfl
 have p3 : ∀ w, (part 4 #[.string x, .string y, .bool b] 2).run Tryz.prog w = .ok (.bool b) w := fun w => by kernel_rfl
 have e1 : ∀ (a : ByteArray) w, (Op.equalIn 9999 9 (.string a) (.string a)).run Tryz.prog w = .ok true w := fun a w => by
  rw [run_equalIn_string w 9998 _ _ _ u1]
  simp
 have e2 : ∀ w, (Op.equalIn 9999 4 (.bool b) (.bool b)).run Tryz.prog w = .ok true w := fun w => by
  rw [run_equalIn_bool' w 9998 _ _ _ u2]
  simp
 simp only [Op.eqFields, n1, n2, n3, o1, o2, o3, t1, t2, t3, ne_eq, not_false_eq_true, if_true, Sem.run_bind, p1, p2, p3, e1, e2, Result.andThen_ok, Sem.run_ite, Sem.run_pure]
 rfl
theorem zlE (op : BinOp) (x y : Operand) (xs ys : Array Value) (w : World) : (eqGuard op 41 x y (.agg xs) (.agg ys)).run Tryz.prog w = .ok () w :=
 run_eqGuard_agg w op _ x y xs ys (by kernel_rfl)
theorem lawAl (ao : Option Addr) (cap : Nat) (xs : List Tx) (vt : Value) (ts : List ByteArray) (last : ByteArray) (oo : Option Addr) (oc : Nat) (ys : List OpT) (w : World) (h : RgsV w ao xs) (ht : SlAt w vt (strVals ts)) (ho : OpsT w oo ys) (htab : Tab w) :
  Calls Tryz.prog 4 #[.slice ao xs.length cap, vt, .string last, .slice oo ys.length oc] w (LawPost w) := by
 have H := zh h
 have HTAB := zh htab
 have HOPS := zh ho
 have HT := zh ht
 obtain ⟨tao, tcap, rfl, htc1, htc2, htn, htc⟩ := ht
 have HTN := zh htn
 have HTC := zh htc
 rw [strVals_length] at htc1 HT ⊢
 unfold maxLen at htc2
 clear h htab ho htn htc
 go_enter Tryz.func4, Tryz.ntmps4
 go_wp2_with fail
 refine (zhH ao cap xs _ H.out).mono ?_
 rintro e w1 ⟨ok, rfl, hf, hb1⟩
 have HB1 := zh hb1
 clear hb1
 cases ok with
 | false =>
  clear hf
  go_wp2_with fail
  go_ret
  exact ⟨rfl, HB1.out⟩
 | true =>
 obtain ⟨hn, hfit⟩ := hf rfl
 have HF := zh hfit
 clear hf hfit
 go_wp2_with fail
 have HT1 := zh (show SlAt w1 (.slice tao ts.length tcap) (strVals ts) from HT.out.keep HB1.out)
 refine (zmB _ ts _ HT1.out).mono ?_
 rintro e w1' ⟨rfl, rfl⟩
 cases h3 : zz3 ts with
 | false =>
  go_wp2_with fail
  go_ret
  exact ⟨rfl, HB1.out⟩
 | true =>
 have HTF := zh (zmC h3)
 clear h3
 by_cases hl : last.size ≤ 2147483647
 rotate_left
 ·have tl : decide ((2147483647 : Int) < last.size) = true := decide_eq_true (by omega)
  go_wp2_with fail
  go_ret
  exact ⟨rfl, HB1.out⟩
 have tl : decide ((2147483647 : Int) < last.size) = false := decide_eq_false (by omega)
 go_wp2_with fail
 refine (ziT oo oc ys _ (HOPS.out.on HB1.out)).mono ?_
 rintro e w2 ⟨ok, rfl, hf4, hb2⟩
 have HB2 := zh (below_tr HB1.out hb2)
 clear hb2
 cases ok with
 | false =>
  clear hf4
  go_wp2_with fail
  go_ret
  exact ⟨rfl, HB2.out⟩
 | true =>
 obtain ⟨hn4, hfit4⟩ := hf4 rfl
 have HF4 := zh hfit4
 clear hf4 hfit4
 go_wp2_with fail
 have HT2 := zh (show SlAt w2 (.slice tao ts.length tcap) (strVals ts) from HT.out.keep HB2.out)
 refine (zeY ao cap xs (.slice tao ts.length tcap) ts last oo oc ys _ (H.out.on HB2.out) HF.out hn HT2.out HTF.out hl (HOPS.out.on HB2.out) HF4.out hn4).mono ?_
 rintro e w3 ⟨ok, rfl, hq, hb3⟩
 have HB3 := zh (below_tr HB2.out hb3)
 clear hb3
 cases ok with
 | false =>
  clear hq
  go_wp2_with fail
  go_ret
  exact ⟨rfl, HB3.out⟩
 | true =>
 obtain ⟨Rs, al, la, os, hA⟩ := hq rfl
 have HA := zh hA
 have hol := hA.ops.1
 have hol60 := hA.l60
 have ht100 := hA.l100
 have hal := hA.tk.1
 clear hq hA
 have HT3 := zh (show SlAt w3 (.slice tao ts.length tcap) (strVals ts) from HT.out.keep HB3.out)
 have hspec := zaW ao cap xs Rs (.slice tao ts.length tcap) ts al last la oo oc os w3 (H.out.on HB3.out) HA.out.all HA.out.l4 HA.out.size HT3.out HA.out.tk HA.out.l100 HA.out.last ((HOPS.out.on HB3.out).toV HA.out.ops) HA.out.ops.fit (by omega)
 have hall := fun (W : World) (hb : Below w.heap.size w W) (hT : SlAt W (.slice tao ts.length tcap) (strVals ts)) => zcA ao cap xs (.slice tao ts.length tcap) ts last ys Rs al la os HA.out oo oc os W (H.out.on hb) hT ((HOPS.out.on hb).toV HA.out.ops) HA.out.ops.fit (by omega) (HTAB.out.on hb)
 rw [hol] at hspec hall
 have hgl := (zP Rs (rdL Rs) ⟨(zJ al).held, la⟩ os).1
 have hdl := (zP Rs (rdL Rs) ⟨(zJ al).held, la⟩ os).2
 have hll := yA ((runD Rs (rdL Rs) ⟨(zJ al).held, la⟩ os).2.held.map leftB)
 rw [List.length_map] at hll
 have htl := yC al
 have hdl' : (runD Rs (rdL Rs) ⟨(zJ al).held, la⟩ os).2.held.length ≤ (zJ al).held.length + os.length := hdl
 generalize (runD Rs (rdL Rs) ⟨(zJ al).held, la⟩ os).1 = gs at hspec hall hgl
 generalize sortL ((runD Rs (rdL Rs) ⟨(zJ al).held, la⟩ os).2.held.map leftB) = ls at hspec hall hll
 have hg60 : gs.length ≤ 60 := by omega
 have hl200 : ls.length ≤ 200 := by omega
 have HSPEC := zh hspec
 have HALL := zh hall
 clear hspec hall hgl hdl hll htl hdl'
 go_wp2_with fail
 refine HSPEC.out.mono ?_
 rintro e w4 ⟨gao, gcap, lao, lcap, rfl, hb4, hcg, hcl⟩
 have HB4 := zh (below_tr HB3.out hb4)
 have HCG := zh hcg
 have HCL := zh hcl
 clear hb4 hcg hcl HSPEC HT3
 go_wp2_with fail
 refine (HALL.out _ HB4.out (HT.out.keep HB4.out)).mono ?_
 rintro e w5 ⟨gao2, gcap2, lao2, lcap2, rfl, hb5, hcg2, hcl2⟩
 have HB45 := zh hb5
 have HB5 := zh (below_tr HB4.out hb5)
 have HCG2 := zh hcg2
 have HCL2 := zh hcl2
 clear hb5 hcg2 hcl2 HALL
 have hne := fun (w : World) (x y : ByteArray) (b : Bool) => zgY w x y b
 have hgd := fun (op : BinOp) (x y : Operand) (xs ys : Array Value) (w : World) => zlE op x y xs ys w
 go_wp2_with fail
 go_loopw [75] (fun i wr => ∃ k : Nat, i = .int .i64 k ∧ k ≤ gs.length ∧ Hid (Below w5.heap.size w5 wr)) (fun i _ => gs.length - (intOf i).toNat)
 case atStart => exact ⟨0, rfl, by omega, zh (Below.refl _ _)⟩
 case round =>
  obtain ⟨k, rfl, hk, hr⟩ := hrel
  by_cases hlt : k < gs.length
  ·have tk : decide ((k : Int) < gs.length) = true := decide_eq_true (by omega)
   obtain ⟨b, hao, hbl, c0, c1, c2⟩ := HCG.out k _ (List.getElem?_eq_getElem hlt)
   obtain ⟨b2, hao2, hbl2, d0, d1, d2⟩ := HCG2.out k _ (List.getElem?_eq_getElem hlt)
   subst hao
   subst hao2
   have c0 := (hr.out.cell (p := ⟨b, k * 3, none⟩) (Nat.lt_of_lt_of_le hbl HB45.out.size)).trans ((HB45.out.cell (p := ⟨b, k * 3, none⟩) hbl).trans c0)
   have c1 := (hr.out.cell (p := ⟨b, k * 3 + 1, none⟩) (Nat.lt_of_lt_of_le hbl HB45.out.size)).trans ((HB45.out.cell (p := ⟨b, k * 3 + 1, none⟩) hbl).trans c1)
   have c2 := (hr.out.cell (p := ⟨b, k * 3 + 2, none⟩) (Nat.lt_of_lt_of_le hbl HB45.out.size)).trans ((HB45.out.cell (p := ⟨b, k * 3 + 2, none⟩) hbl).trans c2)
   have d0 := (hr.out.cell (p := ⟨b2, k * 3, none⟩) hbl2).trans d0
   have d1 := (hr.out.cell (p := ⟨b2, k * 3 + 1, none⟩) hbl2).trans d1
   have d2 := (hr.out.cell (p := ⟨b2, k * 3 + 2, none⟩) hbl2).trans d2
   generalize (⟨gs[k].addr.toArray⟩ : ByteArray) = s1 at c0 d0
   generalize (⟨gs[k].gate.toArray⟩ : ByteArray) = s2 at c1 d1
   generalize gs[k].ok = s3 at c2 d2
   have HBW := zh hr.out
   have q1 : (0 : Int) ≤ (k : Int) := by omega
   clear hr hbl hbl2
   go_wp2_with fail
   go_quiet (fail)
   go_wp2_with fail
   have HDN := zh (below_tr HBW.out (below_drewN (Below.refl wr.heap.size wr) nq))
   go_roundw
   case rel => exact ⟨k + 1, by simp, by omega, HDN⟩
   case measure => simp [intOf]; omega
  ·obtain rfl : k = gs.length := by omega
   have tk : decide ((gs.length : Int) < gs.length) = false := decide_eq_false (by omega)
   have HBW := zh hr.out
   clear hr
   go_wp2_with fail
   go_loopw [90] (fun i wr => ∃ k : Nat, i = .int .i64 k ∧ k ≤ ls.length ∧ Hid (Below w5.heap.size w5 wr)) (fun i _ => ls.length - (intOf i).toNat)
   case atStart => exact ⟨0, rfl, by omega, HBW⟩
   case round =>
    obtain ⟨k, rfl, hk, hr⟩ := hrel
    by_cases hlt : k < ls.length
    ·have tk : decide ((k : Int) < ls.length) = true := decide_eq_true (by omega)
     obtain ⟨b, hao, hbl, c0⟩ := HCL.out k _ (List.getElem?_eq_getElem hlt)
     obtain ⟨b2, hao2, hbl2, d0⟩ := HCL2.out k _ (List.getElem?_eq_getElem hlt)
     subst hao
     subst hao2
     have c0 := (hr.out.cell (p := ⟨b, k, none⟩) (Nat.lt_of_lt_of_le hbl HB45.out.size)).trans ((HB45.out.cell (p := ⟨b, k, none⟩) hbl).trans c0)
     have d0 := (hr.out.cell (p := ⟨b2, k, none⟩) hbl2).trans d0
     generalize (⟨ls[k].toArray⟩ : ByteArray) = s1 at c0 d0
     have HBX := zh hr.out
     have q1 : (0 : Int) ≤ (k : Int) := by omega
     clear hr hbl hbl2
     go_wp2_with fail
     go_quiet (fail)
     go_wp2_with fail
     have HDN := zh (below_tr HBX.out (below_drewN (Below.refl wr.heap.size wr) nq))
     go_roundw
     case rel => exact ⟨k + 1, by simp, by omega, HDN⟩
     case measure => simp [intOf]; omega
    ·obtain rfl : k = ls.length := by omega
     have tk : decide ((ls.length : Int) < ls.length) = false := decide_eq_false (by omega)
     go_wp2_with fail
     go_ret
     exact ⟨rfl, below_tr HB5.out hr.out⟩
end Go.Proofs.YtnehofekgnbelaaGreatDoor

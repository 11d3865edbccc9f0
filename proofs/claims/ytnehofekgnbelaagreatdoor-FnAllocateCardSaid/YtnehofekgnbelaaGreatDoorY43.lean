/-
  Texts put together: Alloc, Ask
-/
import Derived.Test.YtnehofekgnbelaaGreatDoorY42
import Derived.Test.YtnehofekgnbelaaGreatDoorM1
namespace Go.Proofs.YtnehofekgnbelaaGreatDoor
open Go.RowKit
set_option linter.unusedVariables false
set_option maxRecDepth 100000
set_option maxHeartbeats 1000000
def zeD (w : World) (gs : List Giv) (ls : List (List UInt8)) (e : Ending) (w' : World) : Prop :=
 ∃ gao gcap lao lcap, e = .returned (.tuple #[.slice gao gs.length gcap, .slice lao ls.length lcap, .bool true]) ∧ Below w.heap.size w w' ∧
  (∀ (j : Nat) (g : Giv), gs[j]? = some g → ∃ b, gao = some ⟨b, 0, none⟩ ∧ b < w'.heap.size ∧ w'.cell? ⟨b, j * 3, none⟩ = some (.string ⟨g.addr.toArray⟩) ∧ w'.cell? ⟨b, j * 3 + 1, none⟩ = some (.string ⟨g.gate.toArray⟩) ∧ w'.cell? ⟨b, j * 3 + 2, none⟩ = some (.bool g.ok)) ∧
  ∀ (j : Nat) (x : List UInt8), ls[j]? = some x → ∃ b, lao = some ⟨b, 0, none⟩ ∧ b < w'.heap.size ∧ w'.cell? ⟨b, j, none⟩ = some (.string ⟨x.toArray⟩)
theorem zbD {w : World} {tao : Option Addr} {tcap : Nat} {ts : List ByteArray} {k : Nat} (hn : tao = none → strVals ts = [] ∧ tcap = 0) (hc : ∀ a, tao = some a → ∀ j u, (strVals ts)[j]? = some u → w.cell? (a.add j) = some u) (hlt : k < ts.length) :
  ∃ b off, tao = some ⟨b, off, none⟩ ∧ b < w.heap.size ∧ w.cell? ⟨b, off + k, none⟩ = some (.string ts[k]) := by
 cases tao with
 | none =>
  have h1 := (hn rfl).1
  have := strVals_length ts
  rw [h1] at this
  simp at this
  omega
 | some a =>
  have hk : (strVals ts)[k]? = some (.string ts[k]) := by
   unfold strVals
   rw [List.getElem?_map, List.getElem?_eq_getElem hlt]
   rfl
  have h0 := hc a rfl k _ hk
  have hk0 : (strVals ts)[0]? = some (.string ts[0]) := by
   unfold strVals
   rw [List.getElem?_map, List.getElem?_eq_getElem (by omega)]
   rfl
  have hs := spot_none_of_cell (hc a rfl 0 _ hk0)
  obtain ⟨b, off, sp⟩ := a
  simp [Addr.add] at hs
  subst hs
  rw [Addr.add_lit] at h0
  exact ⟨b, off, rfl, World.block_lt_of_cell? w _ h0, h0⟩
theorem ziJ {w : World} (l : List ByteArray) (hl : l.length ≤ 1000) : SlAt (w.alloc (.cells (strVals l).toArray 9)) (.slice (some ⟨w.heap.size, 0, none⟩) l.length l.length) (strVals l) := by
 have h := SlAt.mk (w := w.alloc (.cells (strVals l).toArray 9)) (b := w.heap.size) (off := 0) (cap := l.length) (xs := strVals l) (by rw [strVals_length]; exact Nat.le_refl _) (by unfold maxLen; omega) (fun i hi => by
  rw [Nat.zero_add, cell_of_row _ _ i _ _ _ (heap_alloc_new w _), List.getElem?_toArray, List.getD_eq_getElem?_getD, List.getElem?_eq_getElem hi]
  rfl)
 rw [strVals_length] at h
 exact h
structure L2 (wS : World) (T PT PA A SV : Nat) (rid : ByteArray) (d : Desk) (gs : List Giv) (v : Value) (wr : World) : Prop where
 b : Below wS.heap.size wS wr
 s : StoD wr wS.heap.size T d
 pt : wr.heap[PT]? = some (.cells #[.pointer (some ⟨T, 0, none⟩)] 93 (0, 0))
 pa : wr.heap[PA]? = some (.cells #[.pointer (some ⟨A, 0, none⟩)] 102 (0, 0))
 al : zS wr A SV T rid
 g : GRow wr wS.heap.size v gs
theorem L2.on {wS wr w' : World} {T PT PA A SV : Nat} {rid : ByteArray} {d : Desk} {gs : List Giv} {v : Value} (h : L2 wS T PT PA A SV rid d gs v wr) (hb : Below wr.heap.size wr w') : L2 wS T PT PA A SV rid d gs v w' :=
 ⟨below_tr h.b hb, h.s.on hb, row_on hb h.pt, row_on hb h.pa, h.al.fr (ts := []) (base := 0) (Fr.of_below hb) (by simp), RowP.on h.g hb⟩
theorem zeE (ao : Option Addr) (cap0 : Nat) (xs : List Tx) (Rs : List RIn) (vt : Value) (ts : List ByteArray) (al : List Ad) (last : ByteArray) (la : Option Ad) (oo : Option Addr) (oc : Nat) (os : List OpIn) (rd : Option Ad → List (Nat × Ad)) (w : World)
  (h : RgsV w ao xs) (hx : TxAll xs Rs) (h4 : xs.length ≤ 8) (hi : implB Rs = true) (ht : SlAt w vt (strVals ts)) (htk : zcY ts al) (htl : ts.length ≤ 300) (hla : zfM last la) (hops : OpsV w oo os) (hfit : ∀ o ∈ os, OpFit o) (hol : os.length ≤ 100) (htab : Tab w) (hrd : Rd Rs rd) :
  Calls Tryz.prog 18 #[.slice ao xs.length cap0, vt, .string last, .slice oo os.length oc] w
   (zeD w (runD Rs rd ⟨(zJ al).held, la⟩ os).1 (sortL ((runD Rs rd ⟨(zJ al).held, la⟩ os).2.held.map leftB))) := by
 obtain ⟨hne, hgood⟩ := zcZ hx hi
 have HSO := zh (zgF ao cap0 xs Rs w h hx h4)
 have HTA := zh ht
 have HTK := zh htk
 have HLA := zh hla
 have HOPS := zh hops
 have HFIT := zh hfit
 have HTAB := zh htab
 have HRD := zh hrd
 have HGOOD := zh hgood
 have HI := zh hi
 obtain ⟨tao, tcap, rfl, htc1, htc2, htn, htc⟩ := ht
 have HTN := zh htn
 have HTC := zh htc
 have HLONG := zh (show longIn ts = false from by
  unfold longIn
  rw [List.any_eq_false]
  intro s hs
  obtain ⟨j, hj⟩ := List.getElem?_of_mem hs
  obtain ⟨a, _, _, _, h1⟩ := htk.2 j s hj
  simp
  omega)
 have HLL := zh (show longIn [last] = false from by
  have : last.size ≤ 64 := by
   cases la with
   | none => rw [show last = ⟨#[]⟩ from hla]; decide
   | some a => exact hla.2.2.1
  unfold longIn
  simp
  omega)
 have e1 : decide ((300 : Int) < (ts.length : Int)) = false := decide_eq_false (by omega)
 have e2 : decide ((100 : Int) < (os.length : Int)) = false := decide_eq_false (by omega)
 rw [strVals_length] at htc1 HTA ⊢
 unfold maxLen at htc2
 have hnil := fun w a n c => Lib.run_eql_slice_nil (P := Tryz.prog) w 67 5 a n c 0 0 Tryz.underlying67
 have hmf : ∀ (fn : Fn) (first cap : Array Value) (w : World), (Instr.makeFunc fn first cap).run Tryz.prog w = .ok (.func fn first cap) w := fun _ _ _ _ => rfl
 clear h hx hi htk hla hops hfit htab hrd hgood htn htc
 obtain ⟨i0, hi', hz⟩ := Option.map_eq_some_iff.1 zlI
 simp only [Prod.mk.injEq] at hz
 obtain ⟨hz0, hz1, hz2⟩ := hz
 have HI0g := zh hi'
 have HZ0g := zh hz0
 have HZ1g := zh hz1
 have HZ2g := zh hz2
 obtain ⟨j0, hj', hy⟩ := Option.map_eq_some_iff.1 zeU
 simp only [Prod.mk.injEq] at hy
 obtain ⟨hy0, hy1, hy2⟩ := hy
 have HJ0 := zh hj'
 have HY0 := zh hy0
 have HY1 := zh hy1
 have HY2 := zh hy2
 clear hi' hz0 hz1 hz2 hj' hy0 hy1 hy2
 go_enter Tryz.func18, Tryz.ntmps18
 go_wp2_with fail
 refine HSO.out.mono ?_
 rintro e w1 ⟨v, he, hb1, hset⟩
 rw [HI.out] at he
 subst he
 obtain ⟨g, cap, rfl, hc1, hc2, hg, hels⟩ := hset HI.out
 have HB1 := zh hb1
 have HELS := zh hels
 clear hb1 hset hels HSO
 go_wp2_with fail
 have hbS : Below w1.heap.size w1 (w1.alloc (.cells #[.slice (some ⟨g, 0, none⟩) Rs.length cap] 89)) := (Below.refl _ _).alloc (Nat.le_refl _) _
 have HBS := zh (below_tr HB1.out hbS)
 have HSH := zh (show SetH (w1.alloc (.cells #[.slice (some ⟨g, 0, none⟩) Rs.length cap] 89)).heap.size (w1.alloc (.cells #[.slice (some ⟨g, 0, none⟩) Rs.length cap] 89)) w1.heap.size g cap Rs from
  ⟨heap_alloc_new w1 _, hc1, hc2, by simp, by simp; omega, Nat.le_refl _, fun i R hR => by
   obtain ⟨v0, v1, vi, vm, v4, q1, q2⟩ := HELS.out i R hR
   exact ⟨v0, v1, vi, vm, v4, q1.of_block (hbS.block g hg), q2.on hbS⟩, HGOOD.out⟩)
 clear hbS HELS HGOOD
 obtain ⟨SV, hSV⟩ : ∃ SV, SV = w1.heap.size := ⟨_, rfl⟩
 rw [← hSV] at HSH ⊢
 clear hSV hg
 generalize w1.alloc (.cells #[.slice (some ⟨g, 0, none⟩) Rs.length cap] 89) = wS at HBS HSH ⊢
 clear HB1
 refine (short_yes _ ts _ (HTA.out.keep HBS.out) HLONG.out).mono ?_
 rintro e w' ⟨rfl, rfl⟩
 go_wp2_with fail
 refine (short_yes _ [last] _ (show SlAt (wS.alloc (.cells #[.string last] 9)) (.slice (some ⟨wS.heap.size, 0, none⟩) 1 1) (strVals [last]) from ziJ (w := wS) [last] (by simp)) HLL.out).mono ?_
 rintro e w' ⟨rfl, rfl⟩
 go_wp2_with fail
 obtain ⟨T, hT⟩ : ∃ T, T = wS.heap.size + 1 := ⟨_, rfl⟩
 rw [← hT]
 obtain ⟨PT, hPT⟩ : ∃ PT, PT = T + 1 := ⟨_, rfl⟩
 rw [← hPT]
 have hr1 := heap_alloc_new (wS.alloc (.cells #[.string last] 9)) (.cells #[.slice none 0 0, .slice none 0 0] 96)
 rw [World.size_alloc, ← hT] at hr1
 have hr2 := heap_alloc_new ((wS.alloc (.cells #[.string last] 9)).alloc (.cells #[.slice none 0 0, .slice none 0 0] 96)) (.cells #[.pointer (some ⟨T, 0, none⟩)] 93)
 rw [World.size_alloc, World.size_alloc, ← hT, ← hPT] at hr2
 have hlT : T < ((wS.alloc (.cells #[.string last] 9)).alloc (.cells #[.slice none 0 0, .slice none 0 0] 96)).heap.size := by simp; omega
 have hr1' := (heap_alloc_old _ (.cells #[.pointer (some ⟨T, 0, none⟩)] 93) hlT).trans hr1
 have HBL := zh (show Below wS.heap.size wS (((wS.alloc (.cells #[.string last] 9)).alloc (.cells #[.slice none 0 0, .slice none 0 0] 96)).alloc (.cells #[.pointer (some ⟨T, 0, none⟩)] 93)) from (((Below.refl _ _).alloc (Nat.le_refl _) _).alloc (by simp) _).alloc (by simp; omega) _)
 have HPT := zh hr2
 have HST := zh (show StoD (((wS.alloc (.cells #[.string last] 9)).alloc (.cells #[.slice none 0 0, .slice none 0 0] 96)).alloc (.cells #[.pointer (some ⟨T, 0, none⟩)] 93)) wS.heap.size T ⟨[], none⟩ from
  ⟨[], rfl, ⟨⟨_, _, hr1', RowP.nil _ _ _ _ _, rfl⟩, (fun x hx => by cases hx), (fun x hx => by cases hx), (fun a h => by cases h), by omega⟩⟩)
 generalize ((wS.alloc (.cells #[.string last] 9)).alloc (.cells #[.slice none 0 0, .slice none 0 0] 96)).alloc (.cells #[.pointer (some ⟨T, 0, none⟩)] 93) = wL at HBL HPT HST ⊢
 clear hr1 hr2 hr1' hPT hT hlT
 go_loopw [57] (fun i wr => ∃ k : Nat, i = .int .i64 k ∧ k ≤ ts.length ∧ Hid (Below wS.heap.size wS wr ∧ StoD wr wS.heap.size T (zJ (al.take k)) ∧ wr.heap[PT]? = some (.cells #[.pointer (some ⟨T, 0, none⟩)] 93 (0, 0)))) (fun i _ => ts.length - (intOf i).toNat)
 case atStart => exact ⟨0, rfl, by omega, zh ⟨HBL.out, HST.out, HPT.out⟩⟩
 case round =>
  obtain ⟨k, rfl, hk, hr⟩ := hrel
  have HB := zh hr.out.1
  have HS := zh hr.out.2.1
  have HP := zh hr.out.2.2
  clear hr
  have cP := cell_of_row wr PT 0 _ _ _ HP.out
  by_cases hlt : k < ts.length
  ·have tk : decide ((k : Int) < ts.length) = true := decide_eq_true (by omega)
   obtain ⟨b, off, htao, hbl, hcell⟩ := zbD (w := w) HTN.out HTC.out hlt
   have hx : ts[k]? = some ts[k] := List.getElem?_eq_getElem hlt
   obtain ⟨a, ha, hra, hoka, hsz⟩ := HTK.out.2 k _ hx
   have cX : wr.cell? ⟨b, off + k, none⟩ = some (.string ts[k]) := ((below_tr HBS.out HB.out).cell hbl).trans hcell
   have HTKE := zh (show zJ (al.take (k + 1)) = (zJ (al.take k)).res a otherB otherB by
    rw [List.take_add_one, ha]
    exact zbX _ _)
   have hlenk : (zJ (al.take k)).held.length ≤ 1000 := by
    have h1 := yC (al.take k)
    have h2 := List.length_take_le k al
    omega
   have HAD := zh (fun W => addressOf_any ts[k] a W hra (Nat.le_trans hsz (by decide)))
   have HOKA := zh hoka
   subst htao
   generalize ts[k] = tx at *
   have lP := (Array.getElem?_eq_some_iff.1 HP.out).1
   have q1 : (0 : Int) ≤ (k : Int) := by omega
   clear hcell hx ha hra hoka
   go_wp2_with fail
   refine (HAD.out _).mono ?_
   rintro e w2 ⟨v, rfl, hv, hb2⟩
   have HRS := zh (fun rid => zdV wS.heap.size T _ v a otherB otherB rid w2 (HS.out.on hb2) (.inl hv) HOKA.out hlenk (Nat.le_trans HB.out.size hb2.size))
   have HB2 := zh (below_tr HB.out hb2)
   have hP2 := row_on hb2 HP.out
   have HP2 := zh hP2
   have cP2 := cell_of_row w2 PT 0 _ _ _ hP2
   obtain ⟨bv, ov, cv, rfl, _⟩ := IPAt.out hv
   clear hv hb2 hP2 cP cX HAD
   go_wp2_with fail
   refine (HRS.out _).mono ?_
   rintro e w3 ⟨⟨bb, rfl⟩, hs3, hf3⟩
   have HS3 := zh hs3
   have HF3 := zh hf3
   clear hs3 hf3 HRS cP2
   go_wp2_with fail
   go_roundw
   case rel => exact ⟨k + 1, by simp, by omega, zh ⟨HF3.out.below HB2.out HB2.out.size, by rw [HTKE.out]; exact HS3.out, HF3.out.rows _ _ _ _ HP2.out (by decide)⟩⟩
   case measure => simp [intOf]; omega
  ·obtain rfl : k = ts.length := by omega
   have tk : decide ((ts.length : Int) < ts.length) = false := decide_eq_false (by omega)
   have hall : al.take ts.length = al := by rw [← HTK.out.1]; exact List.take_length
   rw [hall] at HS
   obtain ⟨hs0, he0, hst0⟩ := HS.out
   obtain ⟨hv0, lv0, hT0, hrow0, hl0⟩ := hst0.rows
   have cT := cell_of_row wr T 1 _ _ _ hT0
   have zT := frozen_of_row wr T 1 _ _ hT0
   have hLS := HS.out.last (v := .slice none 0 0) (o := none) rfl (fun a h => by cases h)
   have HLS := zh hLS.1
   have HLF := zh hLS.2
   have HBQ := zh (hLS.2.below HB.out HB.out.size)
   have hPQ := hLS.2.rows _ _ _ _ HP.out (by decide)
   have HPQ := zh hPQ
   have cPQ := cell_of_row _ PT 0 _ _ _ hPQ
   have HBLT := zh hst0.lo
   clear hs0 he0 hst0 hrow0 hl0 hT0 hLS hPQ hall
   obtain ⟨d0, hd0⟩ : ∃ d0 : Desk, d0 = ⟨(zJ al).held, la⟩ := ⟨_, rfl⟩
   rw [← hd0]
   have HIDS := zh (show IdsOK d0 by rw [hd0]; exact zcJ al)
   have HD0 := zh (show d0.held.length ≤ al.length by rw [hd0]; exact yC al)
   cases la with
   | none =>
    rw [← hd0] at HLS
    have HD0E := zh hd0
    clear hd0
    obtain rfl : last = ⟨#[]⟩ := HLA.out
    go_wp2_with fail
    refine (zaQ SV T _ (HTAB.out.on (below_tr HBS.out HBQ.out))).mono ?_
    rintro e w5 ⟨A, rid, rfl, hA, hAl, hb5⟩
    have hb6 := below_tr hb5 ((Below.refl w5.heap.size w5).alloc (Nat.le_refl _) (.cells #[.pointer (some ⟨A, 0, none⟩)] 102))
    have HI0 := zh (show L2 wS T PT w5.heap.size A SV rid d0 [] (.slice none 0 0) (w5.alloc (.cells #[.pointer (some ⟨A, 0, none⟩)] 102)) from
     ⟨below_tr HBQ.out hb6, HLS.out.on hb6, row_on hb6 HPQ.out, heap_alloc_new w5 _, hA.fr (ts := []) (base := 0) (Fr.of_below ((Below.refl w5.heap.size w5).alloc (Nat.le_refl _) _)) (by simp), RowP.nil _ _ _ _ _⟩)
    clear hA hAl hb5 hb6 HLS HBQ HPQ cPQ
    go_wp2_with fail
    generalize w5.alloc (.cells #[.pointer (some ⟨A, 0, none⟩)] 102) = w6 at HI0 ⊢
    generalize w5.heap.size = PA at HI0 ⊢
    go_loopw [18, 89] (fun v i wr => ∃ k : Nat, i = .int .i64 k ∧ k ≤ os.length ∧ Hid (L2 wS T PT PA A SV rid (runD Rs rd d0 (os.take k)).2 (runD Rs rd d0 (os.take k)).1 v wr)) (fun _ i _ => os.length - (intOf i).toNat)
    case atStart => exact ⟨0, rfl, by omega, zh HI0.out⟩
    case round =>
     obtain ⟨k, rfl, hk, hr⟩ := hrel
     have HL := zh hr.out
     clear hr
     by_cases hlt : k < os.length
     ·have tk : decide ((k : Int) < os.length) = true := decide_eq_true (by omega)
      have hx : os[k]? = some os[k] := List.getElem?_eq_getElem hlt
      have hfo := HFIT.out _ (List.getElem_mem hlt)
      obtain ⟨b, off, hoo, hbl, c0, c1, c2, c3⟩ := (HOPS.out.on HBS.out).on HL.out.b k _ hx
      have HRN := zh (show runD Rs rd d0 (os.take (k + 1)) = ((runD Rs rd d0 (os.take k)).1 ++ [(stepD Rs rd (runD Rs rd d0 (os.take k)).2 os[k]).1], (stepD Rs rd (runD Rs rd d0 (os.take k)).2 os[k]).2) by
       rw [List.take_succ_eq_append_getElem hlt, zbY]
       rfl)
      have hlen := zP Rs rd d0 (os.take k)
      have hdl : (runD Rs rd d0 (os.take k)).2.held.length ≤ 1000 := by
       have h1 := hlen.2
       have h2 := HD0.out
       have h3 := HTK.out.1
       have h4 := List.length_take_le k os
       omega
      have hgl : (runD Rs rd d0 (os.take k)).1.length = k := by rw [hlen.1, List.length_take]; omega
      generalize runD Rs rd d0 (os.take k) = p at HL HRN hdl hgl
      obtain ⟨gs, d⟩ := p
      simp only at HL hdl hgl HRN
      generalize os[k] = o at *
      obtain ⟨kind, id, at_, asked, ad⟩ := o
      simp only at c0 c1 c2 c3
      subst hoo
      have hkk : kind ≤ 2 := hfo.ok.k
      have k1 : decide ((kind : Int) < 0) = false := decide_eq_false (by omega)
      have k2 : decide ((2 : Int) < (kind : Int)) = false := decide_eq_false (by omega)
      have HFO := zh hfo
      have HL3 := zh (show longIn [id, at_, asked] = false from by
       have h1 := hfo.l1
       have h2 := hfo.l2
       have h3 := hfo.l3
       unfold longIn
       simp at h1 h2 h3 ⊢
       omega)
      have HIX := zh (show Lib.indexByte (id ++ at_).data.toList ((32 : Int).toNat.toUInt8) = -1 from by
       have : (id ++ at_).data.toList = bl id ++ bl at_ := by rw [← bl_add]; simp [bl]
       rw [this]
       exact xY (by
        rw [List.mem_append]
        rintro (h | h)
        ·exact hfo.s1 h
        ·exact hfo.s2 h))
      have q1 : (0 : Int) ≤ (k : Int) := by omega
      obtain ⟨gao, gcap, rfl, hgc1, hgc2, _⟩ := HL.out.g.form
      rw [hgl]
      unfold maxLen at hgc2
      have l1 : id.size ≤ 64 := hfo.l1
      have l2 : at_.size ≤ 64 := hfo.l2
      clear hfo hx hlen
      go_wp2_with fail
      refine (short_yes _ [id, at_, asked] _ (show SlAt ((wr.alloc (.cells #[.int .i64 kind, .string id, .string at_, .string asked] 45)).alloc (.cells #[.string id, .string at_, .string asked] 9)) (.slice (some ⟨wr.heap.size + 1, 0, none⟩) 3 3) (strVals [id, at_, asked]) from by
       have := ziJ (w := wr.alloc (.cells #[.int .i64 kind, .string id, .string at_, .string asked] 45)) [id, at_, asked] (by simp)
       rw [World.size_alloc] at this
       exact this) HL3.out).mono ?_
      rintro e w' ⟨rfl, rfl⟩
      go_wp2_with fail
      refine (Tryz.strings_IndexByte _ _ _).mono ?_
      rintro e w' ⟨rfl, rfl⟩
      rw [HIX.out]
      go_wp2_with fail
      obtain ⟨PG, hPG⟩ : ∃ PG, PG = wr.heap.size + 1 + 1 := ⟨_, rfl⟩
      rw [← hPG]
      have hr1 := heap_alloc_new wr (.cells #[.int .i64 kind, .string id, .string at_, .string asked] 45)
      have hr2 := heap_alloc_new ((wr.alloc (.cells #[.int .i64 kind, .string id, .string at_, .string asked] 45)).alloc (.cells #[.string id, .string at_, .string asked] 9)) (.cells #[.string ⟨#[]⟩, .string ⟨#[]⟩, .bool false] 41)
      rw [World.size_alloc, World.size_alloc, ← hPG] at hr2
      have hr1' : (((wr.alloc (.cells #[.int .i64 kind, .string id, .string at_, .string asked] 45)).alloc (.cells #[.string id, .string at_, .string asked] 9)).alloc (.cells #[.string ⟨#[]⟩, .string ⟨#[]⟩, .bool false] 41)).heap[wr.heap.size]? = some (.cells #[.int .i64 kind, .string id, .string at_, .string asked] 45 (0, 0)) :=
       (heap_alloc_old _ _ (by simp; omega)).trans ((heap_alloc_old _ _ (by simp)).trans hr1)
      have hbW : Below wr.heap.size wr (((wr.alloc (.cells #[.int .i64 kind, .string id, .string at_, .string asked] 45)).alloc (.cells #[.string id, .string at_, .string asked] 9)).alloc (.cells #[.string ⟨#[]⟩, .string ⟨#[]⟩, .bool false] 41)) := (((Below.refl _ _).alloc (Nat.le_refl _) _).alloc (by simp) _).alloc (by simp; omega) _
      have HLW := zh (HL.out.on hbW)
      have HBW := zh hbW
      have HPG := zh hPG
      have HV := zh (show AlVars (((wr.alloc (.cells #[.int .i64 kind, .string id, .string at_, .string asked] 45)).alloc (.cells #[.string id, .string at_, .string asked] 9)).alloc (.cells #[.string ⟨#[]⟩, .string ⟨#[]⟩, .bool false] 41)) PA PT wr.heap.size PG A T ⟨kind, id, at_, asked, ad⟩ from ⟨HLW.out.pa, HLW.out.pt, hr1', hr2⟩)
      clear hr1 hr2 hr1' hbW hPG c0 c1 c2 c3
      generalize ((wr.alloc (.cells #[.int .i64 kind, .string id, .string at_, .string asked] 45)).alloc (.cells #[.string id, .string at_, .string asked] 9)).alloc (.cells #[.string ⟨#[]⟩, .string ⟨#[]⟩, .bool false] 41) = W at HLW HBW HV ⊢
      have HTRY := zh (zdW wS T d SV g cap Rs A rid rd ⟨kind, id, at_, asked, ad⟩ PA PT wr.heap.size PG W HLW.out.b (HTAB.out.on HBS.out) HLW.out.s (HSH.out.on HLW.out.b) HLW.out.al HRD.out HFO.out.ok hne hdl HV.out (by have := HL.out.b.size; have := HPG.out; omega))
      refine HTRY.out.mono ?_
      rintro e w7 ⟨rfl, hs7, hf7, hg7, hk7⟩
      generalize (stepD Rs rd d ⟨kind, id, at_, asked, ad⟩) = sr at hs7 hg7 HRN
      obtain ⟨⟨ga, gg, gk⟩, d'⟩ := sr
      simp only at hs7 hg7 HRN
      have HG7 := zh (show GRow w7 wS.heap.size (.slice gao gs.length gcap) gs from by
       rcases HL.out.g with ⟨q1, q2, q3⟩ | ⟨g1, c1, hv, ho⟩
       ·exact .inl ⟨q1, q2, q3⟩
       ·obtain ⟨p1, p2, p3, p4, cur, p5, p6⟩ := ho
        have hlt1 := (Array.getElem?_eq_some_iff.1 p5).1
        have hne1 : g1 ≠ PG := by have := HPG.out; omega
        exact .inr ⟨g1, c1, hv, p1, p2, p3, p4, cur, hk7 g1 _ _ hne1 ((HBW.out.block g1 hlt1).trans p5), p6⟩)
      have HL7 := zh (show Below wS.heap.size wS w7 ∧ StoD w7 wS.heap.size T d' ∧ w7.heap[PT]? = some (.cells #[.pointer (some ⟨T, 0, none⟩)] 93 (0, 0)) ∧ w7.heap[PA]? = some (.cells #[.pointer (some ⟨A, 0, none⟩)] 102 (0, 0)) ∧ zS w7 A SV T rid from
       ⟨hf7.below HLW.out.b HLW.out.b.size, hs7, hf7.rows _ _ _ _ HLW.out.pt (by decide), hf7.rows _ _ _ _ HLW.out.pa (by decide), HLW.out.al.fr hf7 (by decide)⟩)
      have r0 := cell_of_row w7 _ 0 _ _ _ hg7
      have r1 := cell_of_row w7 _ 1 _ _ _ hg7
      have r2 := cell_of_row w7 _ 2 _ _ _ hg7
      have HNEW := zh (show ∀ (j : Nat) (u : Value), (Giv.vals ⟨ga, gg, gk⟩)[j]? = some u → (w7.alloc (.cells #[.string ⟨ga.toArray⟩, .string ⟨gg.toArray⟩, .bool gk] 41)).cell? ((⟨w7.heap.size, 0, none⟩ : Addr).add j) = some u from fun j u hu => by
       rw [Addr.add_lit, Nat.zero_add, cell_of_row _ _ j _ _ _ (heap_alloc_new w7 _), ← hu, List.getElem?_toArray]
       rfl)
      have hb8 : Below w7.heap.size w7 (w7.alloc (.cells #[.string ⟨ga.toArray⟩, .string ⟨gg.toArray⟩, .bool gk] 41)) := (Below.refl _ _).alloc (Nat.le_refl _) _
      have HB8 := zh hb8
      have HG8 := zh (show RowP (w7.alloc (.cells #[.string ⟨ga.toArray⟩, .string ⟨gg.toArray⟩, .bool gk] 41)) wS.heap.size 41 3 isGv (.slice gao k gcap) k (flatG gs) from by
       have h := RowP.on HG7.out hb8
       rw [hgl] at h
       exact h)
      clear hs7 hf7 hg7 hk7 HTRY hb8
      go_wp2_with (focus (at_builtin; go_must (refine zN _ rfl _ _ 35 rfl wS.heap.size 41 i0 (.agg #[.string ⟨#[]⟩, .string ⟨#[]⟩, .bool false]) 3 40 isGv Tryz.underlying35 HI0g.out HZ0g.out HZ1g.out HZ2g.out (by rfl) (by decide) zeW (.slice gao k gcap) k (flatG gs) rfl HG8.out ⟨w7.heap.size, 0, none⟩ 1 1 (Giv.vals ⟨ga, gg, gk⟩) rfl rfl HNEW.out (fun u hu => by simp only [Giv.vals, List.mem_cons, List.not_mem_nil, or_false] at hu; rcases hu with rfl | rfl | rfl <;> rfl) (fun u hu => by simp only [Giv.vals, List.mem_cons, List.not_mem_nil, or_false] at hu; rcases hu with rfl | rfl | rfl <;> first | exact .inl ⟨_, rfl⟩ | exact .inr ⟨_, rfl⟩) (by decide) (by unfold maxLen; omega) (by omega) (Nat.le_trans HL7.out.1.size HB8.out.size) ?_)))
      intro g' cap' w9 hown hg hgg
      have HNX := zh (show GRow w9 wS.heap.size (.slice (some ⟨g', 0, none⟩) (k + 1) cap') (gs ++ [⟨ga, gg, gk⟩]) ∧ Fr [41] wS.heap.size (w7.alloc (.cells #[.string ⟨ga.toArray⟩, .string ⟨gg.toArray⟩, .bool gk] 41)) w9 from by
       have h := GRow.next (x := ⟨ga, gg, gk⟩) (show GRow _ wS.heap.size (.slice gao k gcap) gs by unfold GRow; rw [hgl]; exact HG8.out) (by rw [hgl]; exact hown) hg
       rw [hgl] at h
       exact h)
      clear hown hg hgg r0 r1 r2
      go_wp2_with fail
      go_roundw
      case rel => exact ⟨k + 1, by simp, by omega, zh (by
       rw [HRN.out]
       obtain ⟨h1, h2, h3, h4, h5⟩ := HL7.out
       have h6 := (Fr.of_below (ts := [41]) (base := wS.heap.size) HB8.out).trans HNX.out.2
       exact ⟨h6.below h1 h1.size, h2.fr h6 (by decide) (by decide), h6.rows _ _ _ _ h3 (by decide), h6.rows _ _ _ _ h4 (by decide), h5.fr h6 (by decide), HNX.out.1⟩)⟩
      case measure => simp [intOf]; omega
     ·obtain rfl : k = os.length := by omega
      have tk : decide ((os.length : Int) < os.length) = false := decide_eq_false (by omega)
      have hgl := (zP Rs rd d0 os).1
      have hdl2 := (zP Rs rd d0 os).2
      have hdl : (runD Rs rd d0 os).2.held.length ≤ 1000 := by
       have h2 := HD0.out
       have h3 := HTK.out.1
       omega
      rw [List.take_length] at HL
      have HID2 := zh (zcX (rd := rd) (Rs := Rs) HIDS.out HFIT.out)
      obtain ⟨p, hp⟩ : ∃ p, p = runD Rs rd d0 os := ⟨_, rfl⟩
      rw [← hp] at HL hdl hgl HID2
      have HRUN := zh hp
      clear hp
      obtain ⟨gs, d⟩ := p
      simp only at HL hdl hgl HID2
      have HGL := zh hgl
      clear hgl
      obtain ⟨hs, he, hst⟩ := HL.out.s
      obtain ⟨hv0, lv0, hT0, hrow, _⟩ := hst.rows
      obtain ⟨ho0, hcap, rfl, hh1, hh2, hhn, hhs⟩ := hrow.form
      have HHN := zh hhn
      have HHS := zh hhs
      have HSTO := zh hst
      have HHE := zh he
      have cT := cell_of_row wr T 0 _ _ _ hT0
      have cP := cell_of_row wr PT 0 _ _ _ HL.out.pt
      have hhl : hs.length ≤ 1000 := by rw [← he, List.length_map] at hdl; exact hdl
      unfold maxLen at hh2
      obtain ⟨gao, gcap, rfl, hgc1, hgc2, _⟩ := HL.out.g.form
      clear hrow hhn hhs hst he hT0 hdl2
      go_wp2_with fail
      obtain ⟨wz, hwz⟩ : ∃ wz, wz = wr := ⟨_, rfl⟩
      subst hwz
      have HLZ := zh HL.out
      clear HL cT cP
      go_loopw [22, 134] (fun v i wx => ∃ k : Nat, i = .int .i64 k ∧ k ≤ hs.length ∧ Hid (Below wz.heap.size wz wx ∧ ∃ ss, SRow wx wz.heap.size v ss ∧ ss.map bl = (hs.take k).map fun h => leftB h.ent)) (fun _ i _ => hs.length - (intOf i).toNat)
      case atStart => exact ⟨0, rfl, by omega, zh ⟨Below.refl _ _, [], SRow.nil _ _, rfl⟩⟩
      case round =>
       obtain ⟨k, rfl, hk, hr⟩ := hrel
       obtain ⟨hBx, ss, hsr, hss⟩ := hr.out
       have HBX := zh hBx
       have HSS := zh hss
       have hlk : ss.length = k := by
        have h1 := congrArg List.length hss
        rw [List.length_map, List.length_map, List.length_take] at h1
        omega
       obtain ⟨lao, lcap, rfl, hlc1, hlc2⟩ := hsr.form
       have HSR := zh hsr
       rw [hlk] at hlc1 HSR ⊢
       clear hr hBx hsr hss
       by_cases hlt : k < hs.length
       ·have tk : decide ((k : Int) < hs.length) = true := decide_eq_true (by omega)
        obtain ⟨ad, hao⟩ : ∃ ad, ho0 = some ad := by
         cases ho0 with
         | none => have := (HHN.out rfl).1; omega
         | some ad => exact ⟨ad, rfl⟩
        obtain ⟨g2, hg2, hown2⟩ := HHS.out ad hao
        subst hg2
        subst hao
        have hx : hs[k]? = some hs[k] := List.getElem?_eq_getElem hlt
        have hent := HSTO.out.ents _ (List.getElem_mem hlt)
        have hokx := HSTO.out.oks _ (List.getElem_mem hlt)
        have hids := HID2.out hs[k].ent (by rw [← HHE.out]; exact List.mem_map_of_mem (List.getElem_mem hlt))
        have hcell : ∀ c, c < 3 → wr.cell? ⟨g2, k * 3 + c, none⟩ = hs[k].vals[c]? := fun c hc => by
         rw [HBX.out.cell hown2.lt, hown2.cell (k * 3 + c) (by omega), yL hs k c _ hx hc]
        have HTKS := zh (show ((hs.take (k + 1)).map fun h => leftB h.ent) = ((hs.take k).map fun h => leftB h.ent) ++ [leftB hs[k].ent] by
         rw [List.take_succ_eq_append_getElem hlt, List.map_append]
         rfl)
        generalize hs[k] = x at *
        obtain ⟨ev, ea, eid, eat⟩ := x
        have c0 : wr.cell? ⟨g2, k * 3, none⟩ = some ev := hcell 0 (by decide)
        have c1 : wr.cell? ⟨g2, k * 3 + 1, none⟩ = some (.string eid) := hcell 1 (by decide)
        have c2 : wr.cell? ⟨g2, k * 3 + 2, none⟩ = some (.string eat) := hcell 2 (by decide)
        have HTX := zh (zY hokx)
        have HAT := zh hent
        have z1 : eid.size ≤ 64 := hids.1
        have z2 : eat.size ≤ 64 := hids.2
        have HOKX := zh hokx
        obtain ⟨be, oe, ne, ce, rfl⟩ := AdAt.slice hent
        have q1 : (0 : Int) ≤ (k : Int) := by omega
        clear hcell hx hent hokx hids hown2
        go_wp2_with fail
        have hhn := heap_alloc_new wr (.cells #[.slice (some ⟨be, oe, none⟩) ne ce, .string eid, .string eat] 109)
        have hbh : Below wr.heap.size wr (wr.alloc (.cells #[.slice (some ⟨be, oe, none⟩) ne ce, .string eid, .string eat] 109)) := (Below.refl _ _).alloc (Nat.le_refl _) _
        have HHW := zh hhn
        have HBH := zh (below_tr HBX.out hbh)
        have HSRH := zh (HSR.out.on hbh)
        generalize wr.alloc (.cells #[.slice (some ⟨be, oe, none⟩) ne ce, .string eid, .string eat] 109) = wh at HHW HBH HSRH ⊢
        generalize wr.heap.size = HB at HHW ⊢
        have d0' := cell_of_row wh HB 0 _ _ _ HHW.out
        have d1' := cell_of_row wh HB 1 _ _ _ HHW.out
        have d2' := cell_of_row wh HB 2 _ _ _ HHW.out
        have HIS := zh ((ipString_any _ ea wh.drew ((HAT.out.keep HBH.out).keep (below_drewN (Below.refl _ _) 1)) HOKX.out).mono (fun e w' h => zX h))
        obtain ⟨tx, htx⟩ : ∃ tx : ByteArray, tx = ⟨ea.text.toArray⟩ := ⟨_, rfl⟩
        have HTXE := zh (show bl tx = ea.text by rw [htx]; simp [bl])
        have z3 : tx.size ≤ 15 := by rw [← bl_length, HTXE.out]; exact HTX.out
        rw [← htx] at HIS
        have n1 : ¬ 9223372036854775807 < tx.size + 1 := by omega
        have n2 : ¬ 9223372036854775807 < tx.size + 1 + eid.size := by omega
        have n3 : ¬ 9223372036854775807 < tx.size + 1 + eid.size + 1 := by omega
        have n4 : ¬ 9223372036854775807 < tx.size + 1 + eid.size + 1 + eat.size := by omega
        clear c0 c1 c2 hhn hbh htx
        refine wp_region_held_drew (S := (fun w' => w'.cell? ⟨HB, 0, none⟩ = some (.slice (some ⟨be, oe, none⟩) ne ce) ∧ w'.cell? ⟨HB, 1, none⟩ = some (.string eid) ∧ w'.cell? ⟨HB, 2, none⟩ = some (.string eat))) (by kernel_rfl) ?_ (fun hHeld => ?_)
        ·go_keep
        refine zA 0 138 ?v0x1 (by rfl) (by kernel_rfl) (by kernel_rfl) (by kernel_rfl) (by kernel_rfl) (fun _ _ _ _ h => h) (by kernel_rfl) ?hy0x1 (by assumption) ?nx0x1
        case hy0x1 =>
         intro w' hSw
         go_simp
         try with_reducible rfl
        simp only [sA, sB, sC]
        refine zA 1 139 ?v1x2 (by rfl) (by kernel_rfl) (by kernel_rfl) (by kernel_rfl) (by kernel_rfl) (fun _ _ _ _ h => h) (by kernel_rfl) ?hy1x2 (by assumption) ?nx1x2
        case hy1x2 =>
         intro w' hSw
         go_simp
         try with_reducible rfl
        simp only [sA, sB, sC]
        refine zA 2 140 ?v2x3 (by rfl) (by kernel_rfl) (by kernel_rfl) (by kernel_rfl) (by kernel_rfl) (fun _ _ _ _ h => h) (by kernel_rfl) ?hy2x3 (by assumption) ?nx2x3
        case hy2x3 =>
         intro w' hSw
         go_simp
         try with_reducible rfl
        simp only [sA, sB, sC]
        refine zA 5 143 ?v5x4 (by rfl) (by kernel_rfl) (by kernel_rfl) (by kernel_rfl) (by kernel_rfl) (fun _ _ _ _ h => h) (by kernel_rfl) ?hy5x4 (by assumption) ?nx5x4
        case hy5x4 =>
         intro w' hSw
         go_simp
         try with_reducible rfl
        simp only [sA, sB, sC]
        refine zA 6 144 ?v6x5 (by rfl) (by kernel_rfl) (by kernel_rfl) (by kernel_rfl) (by kernel_rfl) (fun _ _ _ _ h => h) (by kernel_rfl) ?hy6x5 (by assumption) ?nx6x5
        case hy6x5 =>
         intro w' hSw
         go_simp
         try with_reducible rfl
        simp only [sA, sB, sC]
        refine zA 9 147 ?v9x6 (by rfl) (by kernel_rfl) (by kernel_rfl) (by kernel_rfl) (by kernel_rfl) (fun _ _ _ _ h => h) (by kernel_rfl) ?hy9x6 (by assumption) ?nx9x6
        case hy9x6 =>
         intro w' hSw
         go_simp
         try with_reducible rfl
        simp only [sA, sB, sC]
        refine zA 10 148 ?v10x7 (by rfl) (by kernel_rfl) (by kernel_rfl) (by kernel_rfl) (by kernel_rfl) (fun _ _ _ _ h => h) (by kernel_rfl) ?hy10x7 (by assumption) ?nx10x7
        case hy10x7 =>
         intro w' hSw
         go_simp
         try with_reducible rfl
        simp only [sA, sB, sC]
        refine wpAnyH_ready (rs := [3]) (by kernel_rfl) (by simp) (AllReadyH.cons (o := _) rfl (fun K hK => ?_) AllReadyH.nil)
        go_simp
        go_at_call 30
        refine HIS.out.mono ?_
        rintro e w2 ⟨rfl, hb2⟩
        have hbw := below_tr (below_drewN (Below.refl wh.heap.size wh) 1) hb2
        have HBW2 := zh hbw
        have hr2 := row_on hbw HHW.out
        have HHW2 := zh hr2
        have f0 := cell_of_row w2 HB 0 _ _ _ hr2
        have f1 := cell_of_row w2 HB 1 _ _ _ hr2
        have f2 := cell_of_row w2 HB 2 _ _ _ hr2
        clear hb2 hbw hr2 d0' d1' d2'
        refine hK.out _ _ ?_ (fun hHeld => ?_)
        ·exact ⟨f0, f1, f2⟩
        clear hK K
        try simp only [Act.put, sA, sB, sC]
        refine zA 4 142 ?v4x8 (by rfl) (by kernel_rfl) (by kernel_rfl) (by kernel_rfl) (by kernel_rfl) (fun _ _ _ _ h => h) (by kernel_rfl) ?hy4x8 (by assumption) ?nx4x8
        case hy4x8 =>
         intro w' hSw
         go_simp
         try with_reducible rfl
        simp only [sA, sB, sC]
        refine zA 7 145 ?v7x9 (by rfl) (by kernel_rfl) (by kernel_rfl) (by kernel_rfl) (by kernel_rfl) (fun _ _ _ _ h => h) (by kernel_rfl) ?hy7x9 (by assumption) ?nx7x9
        case hy7x9 =>
         intro w' hSw
         go_simp
         try with_reducible rfl
        simp only [sA, sB, sC]
        refine zA 8 146 ?v8x10 (by rfl) (by kernel_rfl) (by kernel_rfl) (by kernel_rfl) (by kernel_rfl) (fun _ _ _ _ h => h) (by kernel_rfl) ?hy8x10 (by assumption) ?nx8x10
        case hy8x10 =>
         intro w' hSw
         go_simp
         try with_reducible rfl
        simp only [sA, sB, sC]
        refine zA 11 149 ?v11x11 (by rfl) (by kernel_rfl) (by kernel_rfl) (by kernel_rfl) (by kernel_rfl) (fun _ _ _ _ h => h) (by kernel_rfl) ?hy11x11 (by assumption) ?nx11x11
        case hy11x11 =>
         intro w' hSw
         go_simp
         try with_reducible rfl
        simp only [sA, sB, sC]
        obtain ⟨s, hs⟩ : ∃ s, s = tx ++ ⟨#[32]⟩ ++ eid ++ ⟨#[32]⟩ ++ eat := ⟨_, rfl⟩
        rw [← hs]
        have HLB := zh (show bl s = leftB ⟨ea, eid, eat⟩ by
         rw [hs]
         simp only [bl_add, HTXE.out, leftB]
         simp [bl])
        clear hs n1 n2 n3 n4 z1 z2 z3
        refine wpAnyH_ready (rs := [12]) (by kernel_rfl) (by simp) (AllReadyH.cons (o := _) rfl (fun K hK => ?_) AllReadyH.nil)
        go_simp
        refine hK.out _ _ ?_ (fun hHeld => ?_)
        ·go_keep
        clear hK K
        try simp only [Act.put, sA, sB, sC]
        have HNEW := zh (show ∀ (j : Nat) (u : Value), ([Value.string s] : List Value)[j]? = some u → (w2.alloc (.cells #[.string s] 9)).cell? ((⟨w2.heap.size, 0, none⟩ : Addr).add j) = some u from fun j u hu => by
         rw [Addr.add_lit, Nat.zero_add, cell_of_row _ _ j _ _ _ (heap_alloc_new w2 _), ← hu, List.getElem?_toArray])
        have hbn : Below w2.heap.size w2 (w2.alloc (.cells #[.string s] 9)) := (Below.refl _ _).alloc (Nat.le_refl _) _
        have HBN := zh (below_tr (below_tr HBH.out HBW2.out) hbn)
        have HSRN := zh (show RowP (w2.alloc (.cells #[.string s] 9)) wz.heap.size 9 1 isStr (.slice lao k lcap) k (ss.map Value.string) from by
         have h := (HSRH.out.on HBW2.out).on hbn
         unfold SRow at h
         rw [hlk] at h
         exact h)
        have HHW3 := zh (row_on hbn HHW2.out)
        clear hbn f0 f1 f2
        refine wpAnyH_ready (rs := [13]) (by kernel_rfl) (by simp) (AllReadyH.cons (o := _) rfl (fun K hK => ?_) AllReadyH.nil)
        refine zW _ (by rfl) _ _ 29 (by rfl) wz.heap.size 9 j0 (.string ⟨#[]⟩) 1 16 isStr Tryz.underlying29 HJ0.out HY0.out HY1.out HY2.out (by rfl) (by decide) zbC (.slice lao k lcap) k (ss.map Value.string) (by rfl) HSRN.out ⟨w2.heap.size, 0, none⟩ 1 1 [.string s] (by rfl) (by rfl) HNEW.out (fun u hu => by simp only [List.mem_singleton] at hu; subst hu; rfl) (fun u hu => by simp only [List.mem_singleton] at hu; subst hu; exact ⟨_, rfl⟩) (by decide) (by unfold maxLen; omega) (by omega) HBN.out.size ?_
        intro g' cap' w3 hown hg hgg
        have HNX := zh (show SRow w3 wz.heap.size (.slice (some ⟨g', 0, none⟩) (k + 1) cap') (ss ++ [s]) ∧ Fr [9] wz.heap.size (w2.alloc (.cells #[.string s] 9)) w3 from by
         have h := SRow.next (s := s) (show SRow _ wz.heap.size (.slice lao k lcap) ss by unfold SRow; rw [hlk]; exact HSRN.out) (by rw [hlk]; exact hown) hg
         rw [hlk] at h
         exact h)
        have hr3 := HNX.out.2.rows _ _ _ _ HHW3.out (by decide)
        have e0 := cell_of_row w3 HB 0 _ _ _ hr3
        have e1' := cell_of_row w3 HB 1 _ _ _ hr3
        have e2' := cell_of_row w3 HB 2 _ _ _ hr3
        clear hown hg hgg hr3
        refine hK.out _ _ ?_ (fun hHeld => ?_)
        ·exact ⟨e0, e1', e2'⟩
        clear hK K
        try simp only [Act.put, List.setIfInBounds_toArray]
        refine zA 14 22 ?v14x12 (by rfl) (by kernel_rfl) (by kernel_rfl) (by kernel_rfl) (by kernel_rfl) (fun _ _ _ _ h => h) (by kernel_rfl) ?hy14x12 (by assumption) ?nx14x12
        case hy14x12 =>
         intro w' hSw
         go_simp
         try with_reducible rfl
        simp only [sA, sB, sC]
        refine wpAnyH_done (by kernel_rfl) ?_ _
        clear hHeld e0 e1' e2'
        go_wp2_with fail
        go_roundw
        case rel =>
         exact ⟨k + 1, by simp, by omega, zh ⟨HNX.out.2.below HBN.out HBN.out.size, ss ++ [s], HNX.out.1, by
          rw [List.map_append, HSS.out, HTKS.out, List.map_singleton, HLB.out]
          rfl⟩⟩
        case measure => simp [intOf]; omega
       ·obtain rfl : k = hs.length := by omega
        have tk : decide ((hs.length : Int) < hs.length) = false := decide_eq_false (by omega)
        rw [List.take_length] at HSS
        have HLL2 := zh (show ss.map bl = d.held.map leftB by rw [HSS.out, ← HHE.out, List.map_map]; rfl)
        have HSORT := zh (zfL wz.heap.size (.slice lao hs.length lcap) ss (d.held.map leftB) wr HSR.out HLL2.out (by omega))
        go_wp2_with fail
        refine HSORT.out.mono ?_
        rintro e w' ⟨rfl, hf', hc'⟩
        have HFF := zh (hf'.below HBX.out HBX.out.size)
        have HCC := zh hc'
        clear hf' hc'
        go_wp2_with fail
        have hdl3 : d.held.length = hs.length := by rw [← HHE.out, List.length_map]
        refine bodyPost_ret (v := .tuple #[.slice gao gs.length gcap, .slice lao hs.length lcap, .bool true]) (by simp [results, Tryz.results18, go_sem]) rfl ?_
        rw [← HD0E.out, ← HRUN.out]
        refine ⟨gao, gcap, lao, lcap, by rw [yA, List.length_map, hdl3], below_tr (below_tr HBS.out HLZ.out.b) (by exact HFF.out), fun j x hj => ?_, fun j x hj => ?_⟩
        ·have hj : gs[j]? = some x := hj
         rcases HLZ.out.g with ⟨_, q2, _⟩ | ⟨g1, c1, hv, ho⟩
         ·have := (List.getElem?_eq_some_iff.1 hj).1
          omega
         ·have hg1 : gao = some ⟨g1, 0, none⟩ := (Value.slice.inj hv).1
          have hjl := (List.getElem?_eq_some_iff.1 hj).1
          have hcell : ∀ c, c < 3 → w'.cell? ⟨g1, j * 3 + c, none⟩ = x.vals[c]? := fun c hc => by
           rw [HFF.out.cell ho.lt, ho.cell (j * 3 + c) (by omega), zcW gs j c x hj hc]
          exact ⟨g1, hg1, Nat.lt_of_lt_of_le ho.lt HFF.out.size, hcell 0 (by decide), hcell 1 (by decide), hcell 2 (by decide)⟩
        ·obtain ⟨g1, c1, hv, hc⟩ := HCC.out j x hj
         have hg1 : lao = some ⟨g1, 0, none⟩ := (Value.slice.inj hv).1
         exact ⟨g1, hg1, World.block_lt_of_cell? _ _ hc, hc⟩
   | some a =>
    obtain ⟨y1, y2, y3, y4⟩ := HLA.out
    have HAD := zh (fun W => addressOf_any last a W y1 (Nat.le_trans y3 (by decide)))
    have HOKA := zh y2
    obtain ⟨hs1, he1, hst1⟩ := HLS.out
    obtain ⟨hv1, lv1, hT1, hw1, hl1⟩ := hst1.rows
    have HT1 := zh hT1
    have HLS0 := HLS
    have HBQ0 := HBQ
    have HPQ0 := HPQ
    go_wp2_with fail
    clear y1 y2 y3 he1 hst1 hl1 hT1 hw1 HLF cT zT HLS HBQ HPQ
    generalize wr.setCell ⟨T, 1, none⟩ (.slice none 0 0) = wu at *
    refine wp_region_held_drew (S := (fun w' => w'.cell? ⟨PT, 0, none⟩ = some (.pointer (some ⟨T, 0, none⟩)))) (by kernel_rfl) ?_ (fun hHeld => ?_)
    ·go_keep
    refine zA 0 74 ?v0x13 (by rfl) (by kernel_rfl) (by kernel_rfl) (by kernel_rfl) (by kernel_rfl) (fun _ _ _ _ h => h) (by kernel_rfl) ?hy0x13 (by assumption) ?nx0x13
    case hy0x13 =>
     intro w' hSw
     go_simp
     try with_reducible rfl
    simp only [sA, sB, sC]
    refine zA 1 75 ?v1x14 (by rfl) (by kernel_rfl) (by kernel_rfl) (by kernel_rfl) (by kernel_rfl) (fun _ _ _ _ h => h) (by kernel_rfl) ?hy1x14 (by assumption) ?nx1x14
    case hy1x14 =>
     intro w' hSw
     go_simp
     try with_reducible rfl
    simp only [sA, sB, sC]
    refine wpAnyH_ready (rs := [2]) (by kernel_rfl) (by simp) (AllReadyH.cons (o := _) rfl (fun K hK => ?_) AllReadyH.nil)
    go_simp
    go_at_call 39
    refine (HAD.out _).mono ?_
    rintro e w2 ⟨v, rfl, hv, hb2⟩
    have hbu := below_tr (below_drewN (Below.refl wu.heap.size wu) 1) hb2
    have HBU := zh hbu
    have hT2 := row_on hbu HT1.out
    have cT2 := cell_of_row w2 T 1 _ _ _ hT2
    have zT2 := frozen_of_row w2 T 1 _ _ hT2
    have hP2 := row_on hbu HPQ0.out
    have cP2 := cell_of_row w2 PT 0 _ _ _ hP2
    have hLS := (HLS0.out.on hbu).last (v := v) (o := some a) (.inl hv) (fun x h => by cases h; exact HOKA.out)
    have HLS := zh (show StoD (w2.setCell ⟨T, 1, none⟩ v) wS.heap.size T d0 from by rw [hd0]; exact hLS.1)
    have HBQ := zh (hLS.2.below (below_tr HBQ0.out hbu) (Nat.le_trans HBQ0.out.size hbu.size))
    have hPQ := hLS.2.rows _ _ _ _ hP2 (by decide)
    have HPQ := zh hPQ
    have cPQ := cell_of_row _ PT 0 _ _ _ hPQ
    have HTQ := zh (heap_setCell_same w2 T 1 _ _ v hT2)
    obtain ⟨bv, ov, cv, rfl, _⟩ := IPAt.out hv
    have HD0E := zh hd0
    clear hv hb2 hbu hT2 hP2 hLS hPQ hd0
    refine hK.out _ _ ?_ (fun hHeld => ?_)
    ·exact cP2
    clear hK K
    try simp only [Act.put, sA, sB, sC]
    refine zA 3 77 ?v3x15 (by rfl) (by kernel_rfl) (by kernel_rfl) (by kernel_rfl) (by kernel_rfl) (fun _ _ _ _ h => h) (by kernel_rfl) ?hy3x15 (by assumption) ?nx3x15
    case hy3x15 =>
     intro w' hSw
     go_simp
     try with_reducible rfl
    simp only [sA, sB, sC]
    refine zA 4 78 ?v4x16 (by rfl) (by kernel_rfl) (by kernel_rfl) (by kernel_rfl) (by kernel_rfl) (fun _ _ _ _ h => h) (by kernel_rfl) ?hy4x16 (by assumption) ?nx4x16
    case hy4x16 =>
     intro w' hSw
     go_simp
     try with_reducible rfl
    simp only [sA, sB, sC]
    refine wpAnyH_ready (rs := [5]) (by kernel_rfl) (by simp) (AllReadyH.cons (o := _) rfl (fun K hK => ?_) AllReadyH.nil)
    go_simp
    refine hK.out _ _ ?_ (fun hHeld => ?_)
    ·exact cPQ
    clear hK K
    try simp only [Act.put]
    refine wpAnyH_done (by kernel_rfl) ?_ _
    have cTQ := cell_of_row _ T 1 _ _ _ HTQ.out
    clear cT2 zT2 cP2 hHeld
    generalize w2.setCell ⟨T, 1, none⟩ (.slice (some ⟨bv, ov, none⟩) a.long.length cv) = w3 at *
    go_wp2_with fail
    clear cTQ HTQ
    refine (zaQ SV T _ (HTAB.out.on (below_tr HBS.out HBQ.out))).mono ?_
    rintro e w5 ⟨A, rid, rfl, hA, hAl, hb5⟩
    have hb6 := below_tr hb5 ((Below.refl w5.heap.size w5).alloc (Nat.le_refl _) (.cells #[.pointer (some ⟨A, 0, none⟩)] 102))
    have HI0 := zh (show L2 wS T PT w5.heap.size A SV rid d0 [] (.slice none 0 0) (w5.alloc (.cells #[.pointer (some ⟨A, 0, none⟩)] 102)) from
     ⟨below_tr HBQ.out hb6, HLS.out.on hb6, row_on hb6 HPQ.out, heap_alloc_new w5 _, hA.fr (ts := []) (base := 0) (Fr.of_below ((Below.refl w5.heap.size w5).alloc (Nat.le_refl _) _)) (by simp), RowP.nil _ _ _ _ _⟩)
    clear hA hAl hb5 hb6 HLS HBQ HPQ cPQ
    go_wp2_with fail
    generalize w5.alloc (.cells #[.pointer (some ⟨A, 0, none⟩)] 102) = w6 at HI0 ⊢
    generalize w5.heap.size = PA at HI0 ⊢
    go_loopw [18, 89] (fun v i wr => ∃ k : Nat, i = .int .i64 k ∧ k ≤ os.length ∧ Hid (L2 wS T PT PA A SV rid (runD Rs rd d0 (os.take k)).2 (runD Rs rd d0 (os.take k)).1 v wr)) (fun _ i _ => os.length - (intOf i).toNat)
    case atStart => exact ⟨0, rfl, by omega, zh HI0.out⟩
    case round =>
     obtain ⟨k, rfl, hk, hr⟩ := hrel
     have HL := zh hr.out
     clear hr
     by_cases hlt : k < os.length
     ·have tk : decide ((k : Int) < os.length) = true := decide_eq_true (by omega)
      have hx : os[k]? = some os[k] := List.getElem?_eq_getElem hlt
      have hfo := HFIT.out _ (List.getElem_mem hlt)
      obtain ⟨b, off, hoo, hbl, c0, c1, c2, c3⟩ := (HOPS.out.on HBS.out).on HL.out.b k _ hx
      have HRN := zh (show runD Rs rd d0 (os.take (k + 1)) = ((runD Rs rd d0 (os.take k)).1 ++ [(stepD Rs rd (runD Rs rd d0 (os.take k)).2 os[k]).1], (stepD Rs rd (runD Rs rd d0 (os.take k)).2 os[k]).2) by
       rw [List.take_succ_eq_append_getElem hlt, zbY]
       rfl)
      have hlen := zP Rs rd d0 (os.take k)
      have hdl : (runD Rs rd d0 (os.take k)).2.held.length ≤ 1000 := by
       have h1 := hlen.2
       have h2 := HD0.out
       have h3 := HTK.out.1
       have h4 := List.length_take_le k os
       omega
      have hgl : (runD Rs rd d0 (os.take k)).1.length = k := by rw [hlen.1, List.length_take]; omega
      generalize runD Rs rd d0 (os.take k) = p at HL HRN hdl hgl
      obtain ⟨gs, d⟩ := p
      simp only at HL hdl hgl HRN
      generalize os[k] = o at *
      obtain ⟨kind, id, at_, asked, ad⟩ := o
      simp only at c0 c1 c2 c3
      subst hoo
      have hkk : kind ≤ 2 := hfo.ok.k
      have k1 : decide ((kind : Int) < 0) = false := decide_eq_false (by omega)
      have k2 : decide ((2 : Int) < (kind : Int)) = false := decide_eq_false (by omega)
      have HFO := zh hfo
      have HL3 := zh (show longIn [id, at_, asked] = false from by
       have h1 := hfo.l1
       have h2 := hfo.l2
       have h3 := hfo.l3
       unfold longIn
       simp at h1 h2 h3 ⊢
       omega)
      have HIX := zh (show Lib.indexByte (id ++ at_).data.toList ((32 : Int).toNat.toUInt8) = -1 from by
       have : (id ++ at_).data.toList = bl id ++ bl at_ := by rw [← bl_add]; simp [bl]
       rw [this]
       exact xY (by
        rw [List.mem_append]
        rintro (h | h)
        ·exact hfo.s1 h
        ·exact hfo.s2 h))
      have q1 : (0 : Int) ≤ (k : Int) := by omega
      obtain ⟨gao, gcap, rfl, hgc1, hgc2, _⟩ := HL.out.g.form
      rw [hgl]
      unfold maxLen at hgc2
      have l1 : id.size ≤ 64 := hfo.l1
      have l2 : at_.size ≤ 64 := hfo.l2
      clear hfo hx hlen
      go_wp2_with fail
      refine (short_yes _ [id, at_, asked] _ (show SlAt ((wr.alloc (.cells #[.int .i64 kind, .string id, .string at_, .string asked] 45)).alloc (.cells #[.string id, .string at_, .string asked] 9)) (.slice (some ⟨wr.heap.size + 1, 0, none⟩) 3 3) (strVals [id, at_, asked]) from by
       have := ziJ (w := wr.alloc (.cells #[.int .i64 kind, .string id, .string at_, .string asked] 45)) [id, at_, asked] (by simp)
       rw [World.size_alloc] at this
       exact this) HL3.out).mono ?_
      rintro e w' ⟨rfl, rfl⟩
      go_wp2_with fail
      refine (Tryz.strings_IndexByte _ _ _).mono ?_
      rintro e w' ⟨rfl, rfl⟩
      rw [HIX.out]
      go_wp2_with fail
      obtain ⟨PG, hPG⟩ : ∃ PG, PG = wr.heap.size + 1 + 1 := ⟨_, rfl⟩
      rw [← hPG]
      have hr1 := heap_alloc_new wr (.cells #[.int .i64 kind, .string id, .string at_, .string asked] 45)
      have hr2 := heap_alloc_new ((wr.alloc (.cells #[.int .i64 kind, .string id, .string at_, .string asked] 45)).alloc (.cells #[.string id, .string at_, .string asked] 9)) (.cells #[.string ⟨#[]⟩, .string ⟨#[]⟩, .bool false] 41)
      rw [World.size_alloc, World.size_alloc, ← hPG] at hr2
      have hr1' : (((wr.alloc (.cells #[.int .i64 kind, .string id, .string at_, .string asked] 45)).alloc (.cells #[.string id, .string at_, .string asked] 9)).alloc (.cells #[.string ⟨#[]⟩, .string ⟨#[]⟩, .bool false] 41)).heap[wr.heap.size]? = some (.cells #[.int .i64 kind, .string id, .string at_, .string asked] 45 (0, 0)) :=
       (heap_alloc_old _ _ (by simp; omega)).trans ((heap_alloc_old _ _ (by simp)).trans hr1)
      have hbW : Below wr.heap.size wr (((wr.alloc (.cells #[.int .i64 kind, .string id, .string at_, .string asked] 45)).alloc (.cells #[.string id, .string at_, .string asked] 9)).alloc (.cells #[.string ⟨#[]⟩, .string ⟨#[]⟩, .bool false] 41)) := (((Below.refl _ _).alloc (Nat.le_refl _) _).alloc (by simp) _).alloc (by simp; omega) _
      have HLW := zh (HL.out.on hbW)
      have HBW := zh hbW
      have HPG := zh hPG
      have HV := zh (show AlVars (((wr.alloc (.cells #[.int .i64 kind, .string id, .string at_, .string asked] 45)).alloc (.cells #[.string id, .string at_, .string asked] 9)).alloc (.cells #[.string ⟨#[]⟩, .string ⟨#[]⟩, .bool false] 41)) PA PT wr.heap.size PG A T ⟨kind, id, at_, asked, ad⟩ from ⟨HLW.out.pa, HLW.out.pt, hr1', hr2⟩)
      clear hr1 hr2 hr1' hbW hPG c0 c1 c2 c3
      generalize ((wr.alloc (.cells #[.int .i64 kind, .string id, .string at_, .string asked] 45)).alloc (.cells #[.string id, .string at_, .string asked] 9)).alloc (.cells #[.string ⟨#[]⟩, .string ⟨#[]⟩, .bool false] 41) = W at HLW HBW HV ⊢
      have HTRY := zh (zdW wS T d SV g cap Rs A rid rd ⟨kind, id, at_, asked, ad⟩ PA PT wr.heap.size PG W HLW.out.b (HTAB.out.on HBS.out) HLW.out.s (HSH.out.on HLW.out.b) HLW.out.al HRD.out HFO.out.ok hne hdl HV.out (by have := HL.out.b.size; have := HPG.out; omega))
      refine HTRY.out.mono ?_
      rintro e w7 ⟨rfl, hs7, hf7, hg7, hk7⟩
      generalize (stepD Rs rd d ⟨kind, id, at_, asked, ad⟩) = sr at hs7 hg7 HRN
      obtain ⟨⟨ga, gg, gk⟩, d'⟩ := sr
      simp only at hs7 hg7 HRN
      have HG7 := zh (show GRow w7 wS.heap.size (.slice gao gs.length gcap) gs from by
       rcases HL.out.g with ⟨q1, q2, q3⟩ | ⟨g1, c1, hv, ho⟩
       ·exact .inl ⟨q1, q2, q3⟩
       ·obtain ⟨p1, p2, p3, p4, cur, p5, p6⟩ := ho
        have hlt1 := (Array.getElem?_eq_some_iff.1 p5).1
        have hne1 : g1 ≠ PG := by have := HPG.out; omega
        exact .inr ⟨g1, c1, hv, p1, p2, p3, p4, cur, hk7 g1 _ _ hne1 ((HBW.out.block g1 hlt1).trans p5), p6⟩)
      have HL7 := zh (show Below wS.heap.size wS w7 ∧ StoD w7 wS.heap.size T d' ∧ w7.heap[PT]? = some (.cells #[.pointer (some ⟨T, 0, none⟩)] 93 (0, 0)) ∧ w7.heap[PA]? = some (.cells #[.pointer (some ⟨A, 0, none⟩)] 102 (0, 0)) ∧ zS w7 A SV T rid from
       ⟨hf7.below HLW.out.b HLW.out.b.size, hs7, hf7.rows _ _ _ _ HLW.out.pt (by decide), hf7.rows _ _ _ _ HLW.out.pa (by decide), HLW.out.al.fr hf7 (by decide)⟩)
      have r0 := cell_of_row w7 _ 0 _ _ _ hg7
      have r1 := cell_of_row w7 _ 1 _ _ _ hg7
      have r2 := cell_of_row w7 _ 2 _ _ _ hg7
      have HNEW := zh (show ∀ (j : Nat) (u : Value), (Giv.vals ⟨ga, gg, gk⟩)[j]? = some u → (w7.alloc (.cells #[.string ⟨ga.toArray⟩, .string ⟨gg.toArray⟩, .bool gk] 41)).cell? ((⟨w7.heap.size, 0, none⟩ : Addr).add j) = some u from fun j u hu => by
       rw [Addr.add_lit, Nat.zero_add, cell_of_row _ _ j _ _ _ (heap_alloc_new w7 _), ← hu, List.getElem?_toArray]
       rfl)
      have hb8 : Below w7.heap.size w7 (w7.alloc (.cells #[.string ⟨ga.toArray⟩, .string ⟨gg.toArray⟩, .bool gk] 41)) := (Below.refl _ _).alloc (Nat.le_refl _) _
      have HB8 := zh hb8
      have HG8 := zh (show RowP (w7.alloc (.cells #[.string ⟨ga.toArray⟩, .string ⟨gg.toArray⟩, .bool gk] 41)) wS.heap.size 41 3 isGv (.slice gao k gcap) k (flatG gs) from by
       have h := RowP.on HG7.out hb8
       rw [hgl] at h
       exact h)
      clear hs7 hf7 hg7 hk7 HTRY hb8
      go_wp2_with (focus (at_builtin; go_must (refine zN _ rfl _ _ 35 rfl wS.heap.size 41 i0 (.agg #[.string ⟨#[]⟩, .string ⟨#[]⟩, .bool false]) 3 40 isGv Tryz.underlying35 HI0g.out HZ0g.out HZ1g.out HZ2g.out (by rfl) (by decide) zeW (.slice gao k gcap) k (flatG gs) rfl HG8.out ⟨w7.heap.size, 0, none⟩ 1 1 (Giv.vals ⟨ga, gg, gk⟩) rfl rfl HNEW.out (fun u hu => by simp only [Giv.vals, List.mem_cons, List.not_mem_nil, or_false] at hu; rcases hu with rfl | rfl | rfl <;> rfl) (fun u hu => by simp only [Giv.vals, List.mem_cons, List.not_mem_nil, or_false] at hu; rcases hu with rfl | rfl | rfl <;> first | exact .inl ⟨_, rfl⟩ | exact .inr ⟨_, rfl⟩) (by decide) (by unfold maxLen; omega) (by omega) (Nat.le_trans HL7.out.1.size HB8.out.size) ?_)))
      intro g' cap' w9 hown hg hgg
      have HNX := zh (show GRow w9 wS.heap.size (.slice (some ⟨g', 0, none⟩) (k + 1) cap') (gs ++ [⟨ga, gg, gk⟩]) ∧ Fr [41] wS.heap.size (w7.alloc (.cells #[.string ⟨ga.toArray⟩, .string ⟨gg.toArray⟩, .bool gk] 41)) w9 from by
       have h := GRow.next (x := ⟨ga, gg, gk⟩) (show GRow _ wS.heap.size (.slice gao k gcap) gs by unfold GRow; rw [hgl]; exact HG8.out) (by rw [hgl]; exact hown) hg
       rw [hgl] at h
       exact h)
      clear hown hg hgg r0 r1 r2
      go_wp2_with fail
      go_roundw
      case rel => exact ⟨k + 1, by simp, by omega, zh (by
       rw [HRN.out]
       obtain ⟨h1, h2, h3, h4, h5⟩ := HL7.out
       have h6 := (Fr.of_below (ts := [41]) (base := wS.heap.size) HB8.out).trans HNX.out.2
       exact ⟨h6.below h1 h1.size, h2.fr h6 (by decide) (by decide), h6.rows _ _ _ _ h3 (by decide), h6.rows _ _ _ _ h4 (by decide), h5.fr h6 (by decide), HNX.out.1⟩)⟩
      case measure => simp [intOf]; omega
     ·obtain rfl : k = os.length := by omega
      have tk : decide ((os.length : Int) < os.length) = false := decide_eq_false (by omega)
      have hgl := (zP Rs rd d0 os).1
      have hdl2 := (zP Rs rd d0 os).2
      have hdl : (runD Rs rd d0 os).2.held.length ≤ 1000 := by
       have h2 := HD0.out
       have h3 := HTK.out.1
       omega
      rw [List.take_length] at HL
      have HID2 := zh (zcX (rd := rd) (Rs := Rs) HIDS.out HFIT.out)
      obtain ⟨p, hp⟩ : ∃ p, p = runD Rs rd d0 os := ⟨_, rfl⟩
      rw [← hp] at HL hdl hgl HID2
      have HRUN := zh hp
      clear hp
      obtain ⟨gs, d⟩ := p
      simp only at HL hdl hgl HID2
      have HGL := zh hgl
      clear hgl
      obtain ⟨hs, he, hst⟩ := HL.out.s
      obtain ⟨hv0, lv0, hT0, hrow, _⟩ := hst.rows
      obtain ⟨ho0, hcap, rfl, hh1, hh2, hhn, hhs⟩ := hrow.form
      have HHN := zh hhn
      have HHS := zh hhs
      have HSTO := zh hst
      have HHE := zh he
      have cT := cell_of_row wr T 0 _ _ _ hT0
      have cP := cell_of_row wr PT 0 _ _ _ HL.out.pt
      have hhl : hs.length ≤ 1000 := by rw [← he, List.length_map] at hdl; exact hdl
      unfold maxLen at hh2
      obtain ⟨gao, gcap, rfl, hgc1, hgc2, _⟩ := HL.out.g.form
      clear hrow hhn hhs hst he hT0 hdl2
      go_wp2_with fail
      obtain ⟨wz, hwz⟩ : ∃ wz, wz = wr := ⟨_, rfl⟩
      subst hwz
      have HLZ := zh HL.out
      clear HL cT cP
      go_loopw [22, 134] (fun v i wx => ∃ k : Nat, i = .int .i64 k ∧ k ≤ hs.length ∧ Hid (Below wz.heap.size wz wx ∧ ∃ ss, SRow wx wz.heap.size v ss ∧ ss.map bl = (hs.take k).map fun h => leftB h.ent)) (fun _ i _ => hs.length - (intOf i).toNat)
      case atStart => exact ⟨0, rfl, by omega, zh ⟨Below.refl _ _, [], SRow.nil _ _, rfl⟩⟩
      case round =>
       obtain ⟨k, rfl, hk, hr⟩ := hrel
       obtain ⟨hBx, ss, hsr, hss⟩ := hr.out
       have HBX := zh hBx
       have HSS := zh hss
       have hlk : ss.length = k := by
        have h1 := congrArg List.length hss
        rw [List.length_map, List.length_map, List.length_take] at h1
        omega
       obtain ⟨lao, lcap, rfl, hlc1, hlc2⟩ := hsr.form
       have HSR := zh hsr
       rw [hlk] at hlc1 HSR ⊢
       clear hr hBx hsr hss
       by_cases hlt : k < hs.length
       ·have tk : decide ((k : Int) < hs.length) = true := decide_eq_true (by omega)
        obtain ⟨ad, hao⟩ : ∃ ad, ho0 = some ad := by
         cases ho0 with
         | none => have := (HHN.out rfl).1; omega
         | some ad => exact ⟨ad, rfl⟩
        obtain ⟨g2, hg2, hown2⟩ := HHS.out ad hao
        subst hg2
        subst hao
        have hx : hs[k]? = some hs[k] := List.getElem?_eq_getElem hlt
        have hent := HSTO.out.ents _ (List.getElem_mem hlt)
        have hokx := HSTO.out.oks _ (List.getElem_mem hlt)
        have hids := HID2.out hs[k].ent (by rw [← HHE.out]; exact List.mem_map_of_mem (List.getElem_mem hlt))
        have hcell : ∀ c, c < 3 → wr.cell? ⟨g2, k * 3 + c, none⟩ = hs[k].vals[c]? := fun c hc => by
         rw [HBX.out.cell hown2.lt, hown2.cell (k * 3 + c) (by omega), yL hs k c _ hx hc]
        have HTKS := zh (show ((hs.take (k + 1)).map fun h => leftB h.ent) = ((hs.take k).map fun h => leftB h.ent) ++ [leftB hs[k].ent] by
         rw [List.take_succ_eq_append_getElem hlt, List.map_append]
         rfl)
        generalize hs[k] = x at *
        obtain ⟨ev, ea, eid, eat⟩ := x
        have c0 : wr.cell? ⟨g2, k * 3, none⟩ = some ev := hcell 0 (by decide)
        have c1 : wr.cell? ⟨g2, k * 3 + 1, none⟩ = some (.string eid) := hcell 1 (by decide)
        have c2 : wr.cell? ⟨g2, k * 3 + 2, none⟩ = some (.string eat) := hcell 2 (by decide)
        have HTX := zh (zY hokx)
        have HAT := zh hent
        have z1 : eid.size ≤ 64 := hids.1
        have z2 : eat.size ≤ 64 := hids.2
        have HOKX := zh hokx
        obtain ⟨be, oe, ne, ce, rfl⟩ := AdAt.slice hent
        have q1 : (0 : Int) ≤ (k : Int) := by omega
        clear hcell hx hent hokx hids hown2
        go_wp2_with fail
        have hhn := heap_alloc_new wr (.cells #[.slice (some ⟨be, oe, none⟩) ne ce, .string eid, .string eat] 109)
        have hbh : Below wr.heap.size wr (wr.alloc (.cells #[.slice (some ⟨be, oe, none⟩) ne ce, .string eid, .string eat] 109)) := (Below.refl _ _).alloc (Nat.le_refl _) _
        have HHW := zh hhn
        have HBH := zh (below_tr HBX.out hbh)
        have HSRH := zh (HSR.out.on hbh)
        generalize wr.alloc (.cells #[.slice (some ⟨be, oe, none⟩) ne ce, .string eid, .string eat] 109) = wh at HHW HBH HSRH ⊢
        generalize wr.heap.size = HB at HHW ⊢
        have d0' := cell_of_row wh HB 0 _ _ _ HHW.out
        have d1' := cell_of_row wh HB 1 _ _ _ HHW.out
        have d2' := cell_of_row wh HB 2 _ _ _ HHW.out
        have HIS := zh ((ipString_any _ ea wh.drew ((HAT.out.keep HBH.out).keep (below_drewN (Below.refl _ _) 1)) HOKX.out).mono (fun e w' h => zX h))
        obtain ⟨tx, htx⟩ : ∃ tx : ByteArray, tx = ⟨ea.text.toArray⟩ := ⟨_, rfl⟩
        have HTXE := zh (show bl tx = ea.text by rw [htx]; simp [bl])
        have z3 : tx.size ≤ 15 := by rw [← bl_length, HTXE.out]; exact HTX.out
        rw [← htx] at HIS
        have n1 : ¬ 9223372036854775807 < tx.size + 1 := by omega
        have n2 : ¬ 9223372036854775807 < tx.size + 1 + eid.size := by omega
        have n3 : ¬ 9223372036854775807 < tx.size + 1 + eid.size + 1 := by omega
        have n4 : ¬ 9223372036854775807 < tx.size + 1 + eid.size + 1 + eat.size := by omega
        clear c0 c1 c2 hhn hbh htx
        refine wp_region_held_drew (S := (fun w' => w'.cell? ⟨HB, 0, none⟩ = some (.slice (some ⟨be, oe, none⟩) ne ce) ∧ w'.cell? ⟨HB, 1, none⟩ = some (.string eid) ∧ w'.cell? ⟨HB, 2, none⟩ = some (.string eat))) (by kernel_rfl) ?_ (fun hHeld => ?_)
        ·go_keep
        refine zA 0 138 ?v0x17 (by rfl) (by kernel_rfl) (by kernel_rfl) (by kernel_rfl) (by kernel_rfl) (fun _ _ _ _ h => h) (by kernel_rfl) ?hy0x17 (by assumption) ?nx0x17
        case hy0x17 =>
         intro w' hSw
         go_simp
         try with_reducible rfl
        simp only [sA, sB, sC]
        refine zA 1 139 ?v1x18 (by rfl) (by kernel_rfl) (by kernel_rfl) (by kernel_rfl) (by kernel_rfl) (fun _ _ _ _ h => h) (by kernel_rfl) ?hy1x18 (by assumption) ?nx1x18
        case hy1x18 =>
         intro w' hSw
         go_simp
         try with_reducible rfl
        simp only [sA, sB, sC]
        refine zA 2 140 ?v2x19 (by rfl) (by kernel_rfl) (by kernel_rfl) (by kernel_rfl) (by kernel_rfl) (fun _ _ _ _ h => h) (by kernel_rfl) ?hy2x19 (by assumption) ?nx2x19
        case hy2x19 =>
         intro w' hSw
         go_simp
         try with_reducible rfl
        simp only [sA, sB, sC]
        refine zA 5 143 ?v5x20 (by rfl) (by kernel_rfl) (by kernel_rfl) (by kernel_rfl) (by kernel_rfl) (fun _ _ _ _ h => h) (by kernel_rfl) ?hy5x20 (by assumption) ?nx5x20
        case hy5x20 =>
         intro w' hSw
         go_simp
         try with_reducible rfl
        simp only [sA, sB, sC]
        refine zA 6 144 ?v6x21 (by rfl) (by kernel_rfl) (by kernel_rfl) (by kernel_rfl) (by kernel_rfl) (fun _ _ _ _ h => h) (by kernel_rfl) ?hy6x21 (by assumption) ?nx6x21
        case hy6x21 =>
         intro w' hSw
         go_simp
         try with_reducible rfl
        simp only [sA, sB, sC]
        refine zA 9 147 ?v9x22 (by rfl) (by kernel_rfl) (by kernel_rfl) (by kernel_rfl) (by kernel_rfl) (fun _ _ _ _ h => h) (by kernel_rfl) ?hy9x22 (by assumption) ?nx9x22
        case hy9x22 =>
         intro w' hSw
         go_simp
         try with_reducible rfl
        simp only [sA, sB, sC]
        refine zA 10 148 ?v10x23 (by rfl) (by kernel_rfl) (by kernel_rfl) (by kernel_rfl) (by kernel_rfl) (fun _ _ _ _ h => h) (by kernel_rfl) ?hy10x23 (by assumption) ?nx10x23
        case hy10x23 =>
         intro w' hSw
         go_simp
         try with_reducible rfl
        simp only [sA, sB, sC]
        refine wpAnyH_ready (rs := [3]) (by kernel_rfl) (by simp) (AllReadyH.cons (o := _) rfl (fun K hK => ?_) AllReadyH.nil)
        go_simp
        go_at_call 30
        refine HIS.out.mono ?_
        rintro e w2 ⟨rfl, hb2⟩
        have hbw := below_tr (below_drewN (Below.refl wh.heap.size wh) 1) hb2
        have HBW2 := zh hbw
        have hr2 := row_on hbw HHW.out
        have HHW2 := zh hr2
        have f0 := cell_of_row w2 HB 0 _ _ _ hr2
        have f1 := cell_of_row w2 HB 1 _ _ _ hr2
        have f2 := cell_of_row w2 HB 2 _ _ _ hr2
        clear hb2 hbw hr2 d0' d1' d2'
        refine hK.out _ _ ?_ (fun hHeld => ?_)
        ·exact ⟨f0, f1, f2⟩
        clear hK K
        try simp only [Act.put, sA, sB, sC]
        refine zA 4 142 ?v4x24 (by rfl) (by kernel_rfl) (by kernel_rfl) (by kernel_rfl) (by kernel_rfl) (fun _ _ _ _ h => h) (by kernel_rfl) ?hy4x24 (by assumption) ?nx4x24
        case hy4x24 =>
         intro w' hSw
         go_simp
         try with_reducible rfl
        simp only [sA, sB, sC]
        refine zA 7 145 ?v7x25 (by rfl) (by kernel_rfl) (by kernel_rfl) (by kernel_rfl) (by kernel_rfl) (fun _ _ _ _ h => h) (by kernel_rfl) ?hy7x25 (by assumption) ?nx7x25
        case hy7x25 =>
         intro w' hSw
         go_simp
         try with_reducible rfl
        simp only [sA, sB, sC]
        refine zA 8 146 ?v8x26 (by rfl) (by kernel_rfl) (by kernel_rfl) (by kernel_rfl) (by kernel_rfl) (fun _ _ _ _ h => h) (by kernel_rfl) ?hy8x26 (by assumption) ?nx8x26
        case hy8x26 =>
         intro w' hSw
         go_simp
         try with_reducible rfl
        simp only [sA, sB, sC]
        refine zA 11 149 ?v11x27 (by rfl) (by kernel_rfl) (by kernel_rfl) (by kernel_rfl) (by kernel_rfl) (fun _ _ _ _ h => h) (by kernel_rfl) ?hy11x27 (by assumption) ?nx11x27
        case hy11x27 =>
         intro w' hSw
         go_simp
         try with_reducible rfl
        simp only [sA, sB, sC]
        obtain ⟨s, hs⟩ : ∃ s, s = tx ++ ⟨#[32]⟩ ++ eid ++ ⟨#[32]⟩ ++ eat := ⟨_, rfl⟩
        rw [← hs]
        have HLB := zh (show bl s = leftB ⟨ea, eid, eat⟩ by
         rw [hs]
         simp only [bl_add, HTXE.out, leftB]
         simp [bl])
        clear hs n1 n2 n3 n4 z1 z2 z3
        refine wpAnyH_ready (rs := [12]) (by kernel_rfl) (by simp) (AllReadyH.cons (o := _) rfl (fun K hK => ?_) AllReadyH.nil)
        go_simp
        refine hK.out _ _ ?_ (fun hHeld => ?_)
        ·go_keep
        clear hK K
        try simp only [Act.put, sA, sB, sC]
        have HNEW := zh (show ∀ (j : Nat) (u : Value), ([Value.string s] : List Value)[j]? = some u → (w2.alloc (.cells #[.string s] 9)).cell? ((⟨w2.heap.size, 0, none⟩ : Addr).add j) = some u from fun j u hu => by
         rw [Addr.add_lit, Nat.zero_add, cell_of_row _ _ j _ _ _ (heap_alloc_new w2 _), ← hu, List.getElem?_toArray])
        have hbn : Below w2.heap.size w2 (w2.alloc (.cells #[.string s] 9)) := (Below.refl _ _).alloc (Nat.le_refl _) _
        have HBN := zh (below_tr (below_tr HBH.out HBW2.out) hbn)
        have HSRN := zh (show RowP (w2.alloc (.cells #[.string s] 9)) wz.heap.size 9 1 isStr (.slice lao k lcap) k (ss.map Value.string) from by
         have h := (HSRH.out.on HBW2.out).on hbn
         unfold SRow at h
         rw [hlk] at h
         exact h)
        have HHW3 := zh (row_on hbn HHW2.out)
        clear hbn f0 f1 f2
        refine wpAnyH_ready (rs := [13]) (by kernel_rfl) (by simp) (AllReadyH.cons (o := _) rfl (fun K hK => ?_) AllReadyH.nil)
        refine zW _ (by rfl) _ _ 29 (by rfl) wz.heap.size 9 j0 (.string ⟨#[]⟩) 1 16 isStr Tryz.underlying29 HJ0.out HY0.out HY1.out HY2.out (by rfl) (by decide) zbC (.slice lao k lcap) k (ss.map Value.string) (by rfl) HSRN.out ⟨w2.heap.size, 0, none⟩ 1 1 [.string s] (by rfl) (by rfl) HNEW.out (fun u hu => by simp only [List.mem_singleton] at hu; subst hu; rfl) (fun u hu => by simp only [List.mem_singleton] at hu; subst hu; exact ⟨_, rfl⟩) (by decide) (by unfold maxLen; omega) (by omega) HBN.out.size ?_
        intro g' cap' w3 hown hg hgg
        have HNX := zh (show SRow w3 wz.heap.size (.slice (some ⟨g', 0, none⟩) (k + 1) cap') (ss ++ [s]) ∧ Fr [9] wz.heap.size (w2.alloc (.cells #[.string s] 9)) w3 from by
         have h := SRow.next (s := s) (show SRow _ wz.heap.size (.slice lao k lcap) ss by unfold SRow; rw [hlk]; exact HSRN.out) (by rw [hlk]; exact hown) hg
         rw [hlk] at h
         exact h)
        have hr3 := HNX.out.2.rows _ _ _ _ HHW3.out (by decide)
        have e0 := cell_of_row w3 HB 0 _ _ _ hr3
        have e1' := cell_of_row w3 HB 1 _ _ _ hr3
        have e2' := cell_of_row w3 HB 2 _ _ _ hr3
        clear hown hg hgg hr3
        refine hK.out _ _ ?_ (fun hHeld => ?_)
        ·exact ⟨e0, e1', e2'⟩
        clear hK K
        try simp only [Act.put, List.setIfInBounds_toArray]
        refine zA 14 22 ?v14x28 (by rfl) (by kernel_rfl) (by kernel_rfl) (by kernel_rfl) (by kernel_rfl) (fun _ _ _ _ h => h) (by kernel_rfl) ?hy14x28 (by assumption) ?nx14x28
        case hy14x28 =>
         intro w' hSw
         go_simp
         try with_reducible rfl
        simp only [sA, sB, sC]
        refine wpAnyH_done (by kernel_rfl) ?_ _
        clear hHeld e0 e1' e2'
        go_wp2_with fail
        go_roundw
        case rel =>
         exact ⟨k + 1, by simp, by omega, zh ⟨HNX.out.2.below HBN.out HBN.out.size, ss ++ [s], HNX.out.1, by
          rw [List.map_append, HSS.out, HTKS.out, List.map_singleton, HLB.out]
          rfl⟩⟩
        case measure => simp [intOf]; omega
       ·obtain rfl : k = hs.length := by omega
        have tk : decide ((hs.length : Int) < hs.length) = false := decide_eq_false (by omega)
        rw [List.take_length] at HSS
        have HLL2 := zh (show ss.map bl = d.held.map leftB by rw [HSS.out, ← HHE.out, List.map_map]; rfl)
        have HSORT := zh (zfL wz.heap.size (.slice lao hs.length lcap) ss (d.held.map leftB) wr HSR.out HLL2.out (by omega))
        go_wp2_with fail
        refine HSORT.out.mono ?_
        rintro e w' ⟨rfl, hf', hc'⟩
        have HFF := zh (hf'.below HBX.out HBX.out.size)
        have HCC := zh hc'
        clear hf' hc'
        go_wp2_with fail
        have hdl3 : d.held.length = hs.length := by rw [← HHE.out, List.length_map]
        refine bodyPost_ret (v := .tuple #[.slice gao gs.length gcap, .slice lao hs.length lcap, .bool true]) (by simp [results, Tryz.results18, go_sem]) rfl ?_
        rw [← HD0E.out, ← HRUN.out]
        refine ⟨gao, gcap, lao, lcap, by rw [yA, List.length_map, hdl3], below_tr (below_tr HBS.out HLZ.out.b) (by exact HFF.out), fun j x hj => ?_, fun j x hj => ?_⟩
        ·have hj : gs[j]? = some x := hj
         rcases HLZ.out.g with ⟨_, q2, _⟩ | ⟨g1, c1, hv, ho⟩
         ·have := (List.getElem?_eq_some_iff.1 hj).1
          omega
         ·have hg1 : gao = some ⟨g1, 0, none⟩ := (Value.slice.inj hv).1
          have hjl := (List.getElem?_eq_some_iff.1 hj).1
          have hcell : ∀ c, c < 3 → w'.cell? ⟨g1, j * 3 + c, none⟩ = x.vals[c]? := fun c hc => by
           rw [HFF.out.cell ho.lt, ho.cell (j * 3 + c) (by omega), zcW gs j c x hj hc]
          exact ⟨g1, hg1, Nat.lt_of_lt_of_le ho.lt HFF.out.size, hcell 0 (by decide), hcell 1 (by decide), hcell 2 (by decide)⟩
        ·obtain ⟨g1, c1, hv, hc⟩ := HCC.out j x hj
         have hg1 : lao = some ⟨g1, 0, none⟩ := (Value.slice.inj hv).1
         exact ⟨g1, hg1, World.block_lt_of_cell? _ _ hc, hc⟩
structure Asked (xs : List Tx) (ts : List ByteArray) (last : ByteArray) (ys : List OpT) (Rs : List RIn) (al : List Ad) (la : Option Ad) (os : List OpIn) : Prop where
 all : TxAll xs Rs
 l4 : xs.length ≤ 4
 size : 0 ≤ sizeZ Rs
 ops : OpAll ys os
 l60 : ys.length ≤ 60
 last : zfM last la
 tk : zcY ts al
 l100 : ts.length ≤ 100
def ziK (w : World) (xs : List Tx) (ts : List ByteArray) (last : ByteArray) (ys : List OpT) (e : Ending) (w' : World) : Prop :=
 ∃ ok : Bool, e = .returned (.bool ok) ∧ (ok = true → ∃ Rs al la os, Asked xs ts last ys Rs al la os) ∧ Below w.heap.size w w'
theorem ziL {s : ByteArray} (h : s.toList.isEmpty = false → isAddr (bl s) = true) : ∃ la, zfM s la := by
 cases he : s.toList.isEmpty with
 | true => exact ⟨none, xJ he⟩
 | false =>
  have h6 := h he
  unfold isAddr at h6
  obtain ⟨a, ha⟩ := Option.isSome_iff_exists.1 h6
  obtain ⟨a1, a2, a3⟩ := zaH ha
  exact ⟨some a, ha, a1, a2, a3⟩
theorem zfO (ts : List ByteArray) (h : ∀ (j : Nat) (s : ByteArray), ts[j]? = some s → isAddr (bl s) = true) : ∃ al, zcY ts al := by
 induction ts with
 | nil => exact ⟨[], rfl, fun j s hs => by cases hs⟩
 | cons t ts ih =>
  have h6 := h 0 t rfl
  unfold isAddr at h6
  obtain ⟨a, ha⟩ := Option.isSome_iff_exists.1 h6
  obtain ⟨a1, a2, _⟩ := zaH ha
  obtain ⟨al, hl, hal⟩ := ih (fun j s hs => h (j + 1) s hs)
  refine ⟨a :: al, by simp [hl], fun j s hs => ?_⟩
  cases j with
  | zero =>
   obtain rfl : t = s := (by simpa using hs)
   exact ⟨a, rfl, ha, a1, a2⟩
  | succ j => exact hal j s hs
theorem zeY (ao : Option Addr) (cap : Nat) (xs : List Tx) (vt : Value) (ts : List ByteArray) (last : ByteArray) (oo : Option Addr) (oc : Nat) (ys : List OpT) (w : World)
  (h : RgsV w ao xs) (hf : ∀ (j : Nat) (x : Tx), xs[j]? = some x → x.fits) (hn : xs.length ≤ 2147483647) (ht : SlAt w vt (strVals ts)) (htf : ∀ s ∈ ts, s.size ≤ 2147483647) (hl : last.size ≤ 2147483647)
  (ho : OpsT w oo ys) (hof : ∀ (j : Nat) (x : OpT), ys[j]? = some x → x.fits) (hon : ys.length ≤ 2147483647) :
  Calls Tryz.prog 16 #[.slice ao xs.length cap, vt, .string last, .slice oo ys.length oc] w (ziK w xs ts last ys) := by
 have H := zh h
 have HF := zh hf
 have HO := zh ho
 have HOF := zh hof
 have HTF := zh htf
 obtain ⟨tao, tcap, rfl, htc1, htc2, htn, htc⟩ := ht
 have HTN := zh htn
 have HTC := zh htc
 rw [strVals_length] at htc1 ⊢
 unfold maxLen at htc2
 clear h hf ho hof htf htn htc
 go_enter Tryz.func16, Tryz.ntmps16
 go_wp2_with fail
 refine (zcQ ao cap xs _ H.out HF.out hn).mono ?_
 rintro e w1 ⟨ok1, rfl, hq1, hb1⟩
 have HB1 := zh hb1
 clear hb1
 cases ok1 with
 | false =>
  clear hq1
  go_wp2_with fail
  go_ret
  exact ⟨false, rfl, (fun h => by cases h), HB1.out⟩
 | true =>
  obtain ⟨h4, hR⟩ := hq1 rfl
  obtain ⟨Rs, hall⟩ := zjV xs hR
  have HALL := zh hall
  clear hq1 hR hall
  go_wp2_with fail
  refine (zeB ao cap xs Rs _ (H.out.on HB1.out) HALL.out (by omega)).mono ?_
  rintro e w2 ⟨rfl, hb2⟩
  have HB2 := zh (below_tr HB1.out hb2)
  clear hb2
  obtain ⟨z, hz⟩ : ∃ z, z = sizeZ Rs := ⟨_, rfl⟩
  rw [← hz]
  by_cases hz0 : z < 0
  ·have tz : decide (z < 0) = true := decide_eq_true hz0
   clear hz hz0
   go_wp2_with fail
   go_ret
   exact ⟨false, rfl, (fun h => by cases h), HB2.out⟩
  have tz : decide (z < 0) = false := decide_eq_false hz0
  have HZ := zh (show 0 ≤ sizeZ Rs by omega)
  clear hz hz0
  go_wp2_with fail
  refine (zgM oo oc ys _ (HO.out.on HB2.out) HOF.out hon).mono ?_
  rintro e w3 ⟨ok3, rfl, hq3, hb3⟩
  have HB3 := zh (below_tr HB2.out hb3)
  clear hb3
  cases ok3 with
  | false =>
   clear hq3
   go_wp2_with fail
   go_ret
   exact ⟨false, rfl, (fun h => by cases h), HB3.out⟩
  | true =>
   obtain ⟨h60, os, hos⟩ := hq3 rfl
   have HOS := zh hos
   clear hq3 hos
   cases he : last.toList.isEmpty with
   | true =>
    have HLA := zh (ziL (s := last) (fun h => by rw [he] at h; cases h))
    go_wp2_with fail
    obtain ⟨wz, hwz⟩ : ∃ wz, wz = w3 := ⟨_, rfl⟩
    subst hwz
    go_loopw [35] (fun i wr => ∃ k : Nat, i = .int .i64 k ∧ k ≤ ts.length ∧ Hid ((∀ (j : Nat) (s : ByteArray), j < k → ts[j]? = some s → isAddr (bl s) = true) ∧ Below w.heap.size w wr)) (fun i _ => ts.length - (intOf i).toNat)
    case atStart => exact ⟨0, rfl, by omega, zh ⟨fun j x hj => absurd hj (by omega), HB3.out⟩⟩
    case round =>
     obtain ⟨k, rfl, hk, hr⟩ := hrel
     by_cases hlt : k < ts.length
     ·have tk : decide ((k : Int) < ts.length) = true := decide_eq_true (by omega)
      obtain ⟨b, off, rfl, hbl, c0⟩ := zbD (w := w) (tcap := tcap) HTN.out HTC.out hlt
      have c0 := (hr.out.2.cell (p := ⟨b, off + k, none⟩) hbl).trans c0
      have hbl := Nat.lt_of_lt_of_le hbl hr.out.2.size
      have hx : ts[k]? = some ts[k] := List.getElem?_eq_getElem hlt
      have hz := HTF.out _ (List.getElem_mem hlt)
      have HX := zh hx
      clear hx
      generalize ts[k] = s at *
      go_wp2_with fail
      refine (isAddress_any s _ hz).mono ?_
      rintro e w5 ⟨rfl, hb5⟩
      have HB5 := zh (below_tr hr.out.2 hb5)
      clear hb5 c0
      cases hq : isAddr (bl s) with
      | false =>
       go_wp2_with fail
       go_ret
       exact ⟨false, rfl, (fun h => by cases h), HB5.out⟩
      | true =>
       have HQ := zh hq
       clear hq
       go_wp2_with fail
       go_roundw
       case rel =>
        refine ⟨k + 1, by simp, by omega, zh ⟨fun j y hj hy => ?_, HB5.out⟩⟩
        by_cases hjk : j = k
        ·subst hjk
         rw [HX.out] at hy
         cases hy
         exact HQ.out
        ·exact hr.out.1 j y (by omega) hy
       case measure => simp [intOf]; omega
     ·have tk : decide ((k : Int) < ts.length) = false := decide_eq_false (by omega)
      by_cases h100 : ts.length ≤ 100
      ·have t4 : decide ((ts.length : Int) ≤ 100) = true := decide_eq_true (by omega)
       go_wp2_with fail
       go_ret
       refine ⟨true, rfl, (fun _ => ?_), hr.out.2⟩
       obtain ⟨la, hla⟩ := HLA.out
       obtain ⟨al, hal⟩ := zfO ts (fun j s hs => hr.out.1 j s (by have := (List.getElem?_eq_some_iff.1 hs).1; omega) hs)
       exact ⟨Rs, al, la, os, HALL.out, h4, HZ.out, HOS.out, h60, hla, hal, h100⟩
      ·have t4 : decide ((ts.length : Int) ≤ 100) = false := decide_eq_false (by omega)
       go_wp2_with fail
       go_ret
       exact ⟨false, rfl, (fun h => by cases h), hr.out.2⟩
   | false =>
    go_wp2_with fail
    refine (isAddress_any last _ hl).mono ?_
    rintro e w4 ⟨rfl, hb4⟩
    have HB4 := zh (below_tr HB3.out hb4)
    clear hb4
    cases hq : isAddr (bl last) with
    | false =>
     go_wp2_with fail
     go_ret
     exact ⟨false, rfl, (fun h => by cases h), HB4.out⟩
    | true =>
     have HLA := zh (ziL (s := last) (fun _ => hq))
     clear hq HB3
     have HB3 := zh HB4.out
     clear HB4
     go_wp2_with fail
     obtain ⟨wz, hwz⟩ : ∃ wz, wz = w4 := ⟨_, rfl⟩
     subst hwz
     go_loopw [35] (fun i wr => ∃ k : Nat, i = .int .i64 k ∧ k ≤ ts.length ∧ Hid ((∀ (j : Nat) (s : ByteArray), j < k → ts[j]? = some s → isAddr (bl s) = true) ∧ Below w.heap.size w wr)) (fun i _ => ts.length - (intOf i).toNat)
     case atStart => exact ⟨0, rfl, by omega, zh ⟨fun j x hj => absurd hj (by omega), HB3.out⟩⟩
     case round =>
      obtain ⟨k, rfl, hk, hr⟩ := hrel
      by_cases hlt : k < ts.length
      ·have tk : decide ((k : Int) < ts.length) = true := decide_eq_true (by omega)
       obtain ⟨b, off, rfl, hbl, c0⟩ := zbD (w := w) (tcap := tcap) HTN.out HTC.out hlt
       have c0 := (hr.out.2.cell (p := ⟨b, off + k, none⟩) hbl).trans c0
       have hbl := Nat.lt_of_lt_of_le hbl hr.out.2.size
       have hx : ts[k]? = some ts[k] := List.getElem?_eq_getElem hlt
       have hz := HTF.out _ (List.getElem_mem hlt)
       have HX := zh hx
       clear hx
       generalize ts[k] = s at *
       go_wp2_with fail
       refine (isAddress_any s _ hz).mono ?_
       rintro e w5 ⟨rfl, hb5⟩
       have HB5 := zh (below_tr hr.out.2 hb5)
       clear hb5 c0
       cases hq : isAddr (bl s) with
       | false =>
        go_wp2_with fail
        go_ret
        exact ⟨false, rfl, (fun h => by cases h), HB5.out⟩
       | true =>
        have HQ := zh hq
        clear hq
        go_wp2_with fail
        go_roundw
        case rel =>
         refine ⟨k + 1, by simp, by omega, zh ⟨fun j y hj hy => ?_, HB5.out⟩⟩
         by_cases hjk : j = k
         ·subst hjk
          rw [HX.out] at hy
          cases hy
          exact HQ.out
         ·exact hr.out.1 j y (by omega) hy
        case measure => simp [intOf]; omega
      ·have tk : decide ((k : Int) < ts.length) = false := decide_eq_false (by omega)
       by_cases h100 : ts.length ≤ 100
       ·have t4 : decide ((ts.length : Int) ≤ 100) = true := decide_eq_true (by omega)
        go_wp2_with fail
        go_ret
        refine ⟨true, rfl, (fun _ => ?_), hr.out.2⟩
        obtain ⟨la, hla⟩ := HLA.out
        obtain ⟨al, hal⟩ := zfO ts (fun j s hs => hr.out.1 j s (by have := (List.getElem?_eq_some_iff.1 hs).1; omega) hs)
        exact ⟨Rs, al, la, os, HALL.out, h4, HZ.out, HOS.out, h60, hla, hal, h100⟩
       ·have t4 : decide ((ts.length : Int) ≤ 100) = false := decide_eq_false (by omega)
        go_wp2_with fail
        go_ret
        exact ⟨false, rfl, (fun h => by cases h), hr.out.2⟩
end Go.Proofs.YtnehofekgnbelaaGreatDoor

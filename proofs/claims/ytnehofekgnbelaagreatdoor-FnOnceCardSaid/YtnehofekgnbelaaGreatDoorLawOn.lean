/-
  laws.FnOnce returns true.
-/
import Derived.Test.YtnehofekgnbelaaGreatDoorL1
import Derived.Test.YtnehofekgnbelaaGreatDoorL2
import Derived.Test.YtnehofekgnbelaaGreatDoorL3
import Derived.Test.YtnehofekgnbelaaGreatDoorL4
namespace Go.Proofs.YtnehofekgnbelaaGreatDoor
open Go.RowKit Go.Maps
set_option linter.unusedVariables false
set_option maxRecDepth 100000
set_option maxHeartbeats 1000000

def OnRel (w5 : World) (B n : Nat) (es : List Ent) (wr : World) : Prop := ∃ D : DataW Unit, wr.ownsMap Tryz.prog 9 (plainElem Tryz.prog 9) B n D ∧ MapIs D es ∧ Below w5.heap.size w5 wr
theorem OnRel.on {w5 : World} {B n : Nat} {es : List Ent} {wr w' : World} (h : OnRel w5 B n es wr) (hb : Below wr.heap.size wr w') : OnRel w5 B n es w' := by
  obtain ⟨D, h1, h2, h3⟩ := h
  exact ⟨D, map_on h1 hb, h2, below_tr h3 hb⟩
theorem OnRel.more {w5 : World} {B n m : Nat} {es : List Ent} {wr : World} (h : OnRel w5 B n es wr) (hm : n ≤ m) : OnRel w5 B m es wr := by
  obtain ⟨D, h1, h2, h3⟩ := h
  exact ⟨D, h1.mono hm, h2, h3⟩
theorem other_who : whoL otherB otherB = [111, 116, 104, 101, 114, 32, 111, 116, 104, 101, 114] := by decide
theorem bl_who (id at_ : ByteArray) : bl (id ++ ⟨#[32]⟩ ++ at_) = whoL id at_ := by
  rw [bl_add, bl_add]
  unfold whoL
  simp [bl]

theorem get_len {Rs : List RIn} {rd : Option Ad → List (Nat × Ad)} (hrd : Rd Rs rd) (hg : ∀ R ∈ Rs, Good R) (d : Desk) (o : OpIn) (hk : o.kind = 0) : (stepD Rs rd d o).1.addr.length ≤ 64 := by
  unfold stepD
  rw [hk]
  cases h : getR Rs rd d o.id o.at_ o.ad with
  | none => exact Nat.zero_le _
  | some p =>
    obtain ⟨i, a⟩ := p
    obtain ⟨R, h2, h3⟩ := getR_in hrd h
    have hl1 := text_length ((hg R (List.mem_of_getElem? h2)).ads h3)
    have hl2 := decL_length 2 (8 * a.width - R.free) (by unfold Ad.width; split <;> omega)
    unfold givR
    simp only [h2]
    unfold netL
    rw [List.length_append, List.length_cons]
    omega
theorem size_of_bl {s : ByteArray} {l : List UInt8} (h : bl s = l) : s.size = l.length := by rw [← bl_length, h]
theorem any_take (Rs : List RIn) (a : Ad) (j : Nat) (R : RIn) (h : Rs[j]? = some R) : (Rs.take (j + 1)).any (fun R => inR R a) = ((Rs.take j).any (fun R => inR R a) || inR R a) := by
  obtain ⟨hj, e⟩ := List.getElem?_eq_some_iff.1 h
  rw [List.take_succ_eq_append_getElem hj, e, List.any_append]
  simp
def OnMid (w5 : World) (B r n : Nat) (es : List Ent) (who : List UInt8) (wr : World) : Prop := ∃ (left : Lit → Bool) (cnt : Nat) (D : DataW Unit), wr.ranges Tryz.prog 9 (plainElem Tryz.prog 9) B r n D left cnt ∧ LeftMap D es who left ∧ Below w5.heap.size w5 wr

theorem lawOn (ao : Option Addr) (cap : Nat) (xs : List Tx) (vt : Value) (ts : List ByteArray) (last : ByteArray) (oo : Option Addr) (oc : Nat) (ys : List OpT) (w : World) (h : RgsV w ao xs) (ht : SlAt w vt (strVals ts)) (ho : OpsT w oo ys) (htab : Tab w) :
    Calls Tryz.prog 6 #[.slice ao xs.length cap, vt, .string last, .slice oo ys.length oc] w (LawPost w) := by
  have H := Lib.hid h
  have HTAB := Lib.hid htab
  have HOPS := Lib.hid ho
  have hmm := @run_makeMap Tryz.prog
  have HT := Lib.hid ht
  obtain ⟨tao, tcap, rfl, htc1, htc2, htn, htc⟩ := ht
  have HTN := Lib.hid htn
  have HTC := Lib.hid htc
  rw [strVals_length] at htc1 HT ⊢
  unfold maxLen at htc2
  clear h htab ho htn htc
  go_enter Tryz.func6, Tryz.ntmps6
  go_wp2_with fail
  refine (fits2_any ao cap xs _ H.out).mono ?_
  rintro e w1 ⟨ok, rfl, hf, hb1⟩
  have HB1 := Lib.hid hb1
  clear hb1
  cases ok with
  | false =>
    clear hf
    go_wp2_with fail
    go_ret
    exact ⟨rfl, HB1.out⟩
  | true =>
  obtain ⟨hn, hfit⟩ := hf rfl
  have HF := Lib.hid hfit
  clear hf hfit
  go_wp2_with fail
  have HT1 := Lib.hid (show SlAt w1 (.slice tao ts.length tcap) (strVals ts) from HT.out.keep HB1.out)
  refine (zz3_any _ ts _ HT1.out).mono ?_
  rintro e w1' ⟨rfl, rfl⟩
  cases h3 : zz3 ts with
  | false =>
    go_wp2_with fail
    go_ret
    exact ⟨rfl, HB1.out⟩
  | true =>
  have HTF := Lib.hid (zz3_fit h3)
  clear h3
  by_cases hl : last.size ≤ 2147483647
  rotate_left
  · have tl : decide ((2147483647 : Int) < last.size) = true := decide_eq_true (by omega)
    go_wp2_with fail
    go_ret
    exact ⟨rfl, HB1.out⟩
  have tl : decide ((2147483647 : Int) < last.size) = false := decide_eq_false (by omega)
  go_wp2_with fail
  refine (fits4_any oo oc ys _ (HOPS.out.on HB1.out)).mono ?_
  rintro e w2 ⟨ok, rfl, hf4, hb2⟩
  have HB2 := Lib.hid (below_tr HB1.out hb2)
  clear hb2
  cases ok with
  | false =>
    clear hf4
    go_wp2_with fail
    go_ret
    exact ⟨rfl, HB2.out⟩
  | true =>
  obtain ⟨hn4, hfit4⟩ := hf4 rfl
  have HF4 := Lib.hid hfit4
  clear hf4 hfit4
  go_wp2_with fail
  have HT2 := Lib.hid (show SlAt w2 (.slice tao ts.length tcap) (strVals ts) from HT.out.keep HB2.out)
  refine (isAsked_any ao cap xs (.slice tao ts.length tcap) ts last oo oc ys _ (H.out.on HB2.out) HF.out hn HT2.out HTF.out hl (HOPS.out.on HB2.out) HF4.out hn4).mono ?_
  rintro e w3 ⟨ok, rfl, hq, hb3⟩
  have HB3 := Lib.hid (below_tr HB2.out hb3)
  clear hb3
  cases ok with
  | false =>
    clear hq
    go_wp2_with fail
    go_ret
    exact ⟨rfl, HB3.out⟩
  | true =>
  obtain ⟨Rs, al, la, os, hA⟩ := hq rfl
  have HA := Lib.hid hA
  have hol := hA.ops.1
  have hol60 := hA.l60
  have ht100 := hA.l100
  have hal := hA.tk.1
  clear hq hA
  have HT3 := Lib.hid (show SlAt w3 (.slice tao ts.length tcap) (strVals ts) from HT.out.keep HB3.out)
  have hall := allocate_asked ao cap xs (.slice tao ts.length tcap) ts last ys Rs al la os HA.out oo oc os w3 (H.out.on HB3.out) HT3.out ((HOPS.out.on HB3.out).toV HA.out.ops) HA.out.ops.fit (by omega) (HTAB.out.on HB3.out)
  have hgl := (runD_length Rs (rdL Rs) ⟨(tkDesk al).held, la⟩ os).1
  have hat := runD_at Rs (rdL Rs) ⟨(tkDesk al).held, la⟩ os
  obtain ⟨hgood, hdis, hne⟩ := asked_good HA.out
  have HG := Lib.hid hgood
  have HRD := Lib.hid (rd_ok Rs hgood hdis hne)
  have htk := tkDesk_on al (fun a ha => by
    obtain ⟨j, hj⟩ := List.getElem?_of_mem ha
    have hjl := (List.getElem?_eq_some_iff.1 hj).1
    obtain ⟨b, h1, _, h2, _⟩ := HA.out.tk.2 j ts[j] (List.getElem?_eq_getElem (by omega))
    rw [hj] at h1
    cases h1
    exact h2)
  have HTKS := Lib.hid (fun k => tkDesk_on (al.take k) (fun a ha => by
    obtain ⟨j, hj⟩ := List.getElem?_of_mem (List.mem_of_mem_take ha)
    have hjl := (List.getElem?_eq_some_iff.1 hj).1
    obtain ⟨b, h1, _, h2, _⟩ := HA.out.tk.2 j ts[j] (List.getElem?_eq_getElem (by omega))
    rw [hj] at h1
    cases h1
    exact h2))
  have HON := Lib.hid (fun k => runD_on (d := ⟨(tkDesk al).held, la⟩) HRD.out HG.out ⟨htk.1.once, htk.1.words⟩ (os.take k) (fun o ho => HA.out.ops.fit o (List.mem_of_mem_take ho)))
  rw [hol] at hall hgl
  have HAT := Lib.hid hat
  generalize (runD Rs (rdL Rs) ⟨(tkDesk al).held, la⟩ os).1 = gs at hall hgl HAT
  generalize hleft : sortL ((runD Rs (rdL Rs) ⟨(tkDesk al).held, la⟩ os).2.held.map leftB) = ls at hall
  have HAL := Lib.hid hall
  clear hall hat hgood hdis hne htk hleft
  go_wp2_with fail
  refine HAL.out.mono ?_
  rintro e w5 ⟨gao, gcap, lao, lcap, rfl, hb5, hcg, _⟩
  have HB5 := Lib.hid (below_tr HB3.out hb5)
  have HCG := Lib.hid hcg
  clear hb5 hcg HAL
  rw [hgl]
  obtain ⟨B, hB⟩ : ∃ B, B = w5.heap.size := ⟨_, rfl⟩
  have HMM := Lib.hid (show OnRel w5 B 0 [] (w5.alloc (.map #[] 0)) from ⟨.map [], by rw [hB]; exact World.ownsMap_made _ _ _ _, mapIs_empty, (Below.refl _ _).alloc (Nat.le_refl _) _⟩)
  go_wp2_with fail
  rw [← hB]
  have HB := Lib.hid hB
  clear hB
  generalize w5.alloc (.map #[] 0) = w6 at HMM ⊢
  go_loopw [69] (fun i wr => ∃ k : Nat, i = .int .i64 k ∧ k ≤ ts.length ∧ Hid (OnRel w5 B k (tkDesk (al.take k)).held wr)) (fun i _ => ts.length - (intOf i).toNat)
  case atStart => exact ⟨0, rfl, by omega, Lib.hid HMM.out⟩
  case round =>
    obtain ⟨k, rfl, hk, hr⟩ := hrel
    by_cases hlt : k < ts.length
    · have tk : decide ((k : Int) < ts.length) = true := decide_eq_true (by omega)
      obtain ⟨b, off, rfl, hbl, c0⟩ := taken_at (w := w) (tcap := tcap) HTN.out HTC.out hlt
      obtain ⟨a, ha1, ha2, ha3, ha4⟩ := HA.out.tk.2 k _ (List.getElem?_eq_getElem hlt)
      obtain ⟨D, hown, hmap, hbel⟩ := hr.out
      have c0 := ((below_tr HB5.out hbel).cell (p := ⟨b, off + k, none⟩) hbl).trans c0
      have hbl := Nat.lt_of_lt_of_le hbl (below_tr HB5.out hbel).size
      generalize ts[k] = s at *
      have HTX := Lib.hid (show s.data.toList = a.text from read_text ha2)
      have HMP := Lib.hid hmap
      have HBL := Lib.hid hbel
      have HTK1 := Lib.hid (show tkDesk (al.take (k + 1)) = (tkDesk (al.take k)).res a otherB otherB by
        obtain ⟨hk', e⟩ := List.getElem?_eq_some_iff.1 ha1
        rw [List.take_succ_eq_append_getElem hk', e, tkDesk_snoc])
      have HOK := Lib.hid ha3
      have hkey := Go.WideMaps.keyOf_string_mk (P := Tryz.prog) Tryz.underlying9 (s := s) (by unfold maxLen; omega)
      have HKEY := Lib.hid hkey
      have HOWN := Lib.hid hown
      clear hr hmap hbel ha1 ha2 ha3 hkey hown
      go_wp2_with (first | (at_mapUpdate; refine wpList_mapUpdate_own _ rfl _ _ _ 47 rfl 9 9 kStr Tryz.underlying47 _ B k _ rfl HOWN.out (by unfold maxLen; omega) _ _ _ rfl rfl HKEY.out _ [] (plainElem_string Tryz.underlying9 (s := ⟨#[111, 116, 104, 101, 114, 32, 111, 116, 104, 101, 114]⟩) (by decide)) ?_))
      intro w7 hown7 hg7
      have HN := Lib.hid (show OnRel w5 B (k + 1) (tkDesk (al.take (k + 1))).held w7 from by
        have h1 := (res_map (HTKS.out k).1 HMP.out (HTKS.out k).2 HOK.out).1
        rw [← HTK1.out, other_who, ← HTX.out] at h1
        exact ⟨_, hown7, h1, HBL.out.grown hg7 HBL.out.size (fun q hq => by cases hq; rw [HB.out]; exact Nat.le_refl _)⟩)
      clear hown7 hg7
      go_wp2_with fail
      go_roundw
      case rel => exact ⟨k + 1, by simp, by omega, HN⟩
      case measure => simp [intOf]; omega
    · have tk : decide ((k : Int) < ts.length) = false := decide_eq_false (by omega)
      obtain rfl : k = ts.length := by omega
      have HM0 := Lib.hid (show OnRel w5 B (ts.length + 0) (runD Rs (rdL Rs) ⟨(tkDesk al).held, la⟩ (os.take 0)).2.held wr from by
        have h1 := hr.out
        rw [List.take_of_length_le (by omega)] at h1
        exact h1)
      clear hr
      go_wp2_with fail
      generalize wr = w8 at HM0 ⊢
      go_loopw [78] (fun i wr => ∃ k : Nat, i = .int .i64 k ∧ k ≤ ys.length ∧ Hid (OnRel w5 B (ts.length + k) (runD Rs (rdL Rs) ⟨(tkDesk al).held, la⟩ (os.take k)).2.held wr)) (fun i _ => ys.length - (intOf i).toNat)
      case atStart => exact ⟨0, rfl, by omega, HM0⟩
      case round =>
        obtain ⟨k, rfl, hk, hr⟩ := hrel
        by_cases hlt : k < ys.length
        · have tk : decide ((k : Int) < ys.length) = true := decide_eq_true (by omega)
          have hx : ys[k]? = some ys[k] := List.getElem?_eq_getElem hlt
          obtain ⟨D, hown, hmap, hbel⟩ := hr.out
          have HR := Lib.hid hr.out
          clear hr
          obtain ⟨o, ho, hor⟩ := HA.out.ops.2 k _ hx
          obtain ⟨b, off, rfl, hbl, c0, c1, c2, c3⟩ := HOPS.out.on (below_tr HB5.out hbel) k _ hx
          rw [hor.k] at c0
          rw [hor.i] at c1
          rw [hor.a] at c2
          rw [hor.s] at c3
          have hfit := hor.fit
          clear hx hor
          obtain ⟨hg1, hg2⟩ := HAT.out k o ho
          have hon := HON.out k
          obtain ⟨gb, rfl, hgbl, g0, _, g2⟩ := HCG.out k _ hg1
          have g0 := (hbel.cell (p := ⟨gb, k * 3, none⟩) hgbl).trans g0
          have g2 := (hbel.cell (p := ⟨gb, k * 3 + 2, none⟩) hgbl).trans g2
          have hgbl := Nat.lt_of_lt_of_le hgbl hbel.size
          have HG2 := Lib.hid hg2
          clear hg2 hg1
          generalize (runD Rs (rdL Rs) ⟨(tkDesk al).held, la⟩ (os.take k)).2 = d at *
          have HDON := Lib.hid hon
          have HFIT := Lib.hid hfit
          have HMAP := Lib.hid hmap
          have HOWN := Lib.hid hown
          have HBEL := Lib.hid hbel
          have hkk := hfit.ok.k
          have hi64 := hfit.l1
          have ha64 := hfit.l2
          have hs64 := hfit.l3
          have HO := Lib.hid ho
          clear hon hfit hmap hown hbel ho
          have q0 : (0 : Int) ≤ (k : Int) := by omega
          obtain ⟨kind, id, at_, asked, ad⟩ := o
          simp only at c0 c1 c2 c3 hkk hi64 ha64 hs64
          have n1 : ¬ 9223372036854775807 < id.size + 1 := by omega
          have n2 : ¬ 9223372036854775807 < id.size + 1 + at_.size := by omega
          by_cases k0 : kind = 0
          · subst k0
            have c0 : wr.cell? ⟨b, off + k * 4, none⟩ = some (.int .i64 0) := c0
            rcases give_get HRD.out HG.out d ⟨0, id, at_, asked, ad⟩ rfl with ⟨hok, hd2⟩ | ⟨a, R, x, hok, had, hheld, hnot, hRm, hin, haok, heq⟩
            · rw [hok] at g2
              rw [hd2] at HG2
              have HN := Lib.hid (show OnRel w5 B (ts.length + (k + 1)) (runD Rs (rdL Rs) ⟨(tkDesk al).held, la⟩ (os.take (k + 1))).2.held (wr.alloc (.cells #[.int .i64 0, .string id, .string at_, .string asked] 45)) from by
                rw [HG2.out]
                exact (HR.out.on ((Below.refl _ _).alloc (Nat.le_refl _) _)).more (by omega))
              clear hok hd2
              go_wp2_with fail
              go_roundw
              case rel => exact ⟨k + 1, by simp, by omega, HN⟩
              case measure => simp [intOf]; omega
            · have hlen := get_len HRD.out HG.out d ⟨0, id, at_, asked, ad⟩ rfl
              rw [hok] at g2
              rw [had] at g0 hlen
              obtain ⟨s, hs⟩ : ∃ s : ByteArray, s = ⟨(a.text ++ 47 :: x).toArray⟩ := ⟨_, rfl⟩
              rw [← hs] at g0
              have hbs : bl s = a.text ++ 47 :: x := by rw [hs]; simp [bl]
              have hsz : s.size ≤ 64 := by rw [size_of_bl hbs]; exact hlen
              have HNW := Lib.hid (fun w => network_any s a.text x w hbs (text_not (by unfold NoB; decide) a) (by omega))
              have HIN := Lib.hid (And.intro hRm hin)
              have HAO := Lib.hid haok
              have HHN := Lib.hid (hold_not HDON.out haok hnot)
              have HEQ := Lib.hid heq
              have HHELD := Lib.hid hheld
              have htl := text_length haok
              clear hok had hs hbs hlen hRm hin haok hnot heq hheld
              go_wp2_with fail
              refine (HNW.out _).mono ?_
              rintro e wv ⟨t, rfl, ht, rfl⟩
              have HT4 := Lib.hid ht
              have htz : t.size ≤ 64 := by rw [size_of_bl ht]; omega
              clear ht HNW g0 g2
              obtain ⟨OB, hOB⟩ : ∃ OB, OB = wr.heap.size := ⟨_, rfl⟩
              have hrow := heap_alloc_new wr (.cells #[.int .i64 0, .string id, .string at_, .string asked] 45)
              have hba : Below wr.heap.size wr (wr.alloc (.cells #[.int .i64 0, .string id, .string at_, .string asked] 45)) := (Below.refl _ _).alloc (Nat.le_refl _) _
              rw [← hOB] at hrow
              have HROW := Lib.hid hrow
              have HRA := Lib.hid (HR.out.on hba)
              have HBA := Lib.hid (below_tr HBEL.out hba)
              clear hrow hba
              go_wp2_with fail
              rw [← hOB]
              have HOB := Lib.hid hOB
              clear hOB c0 c1 c2 c3
              generalize wr.alloc (.cells #[.int .i64 0, .string id, .string at_, .string asked] 45) = wA at HROW HRA HBA ⊢
              have hxl := HA.out.all.1
              go_loopw [19, 108] (fun v i wx => ∃ j : Nat, i = .int .i64 j ∧ j ≤ xs.length ∧ v = .bool ((Rs.take j).any fun R => inR R a) ∧ Hid (Below wA.heap.size wA wx)) (fun _ i _ => xs.length - (intOf i).toNat)
              case atStart => exact ⟨0, rfl, by omega, rfl, Lib.hid (Below.refl _ _)⟩
              case round =>
                obtain ⟨j, rfl, hj, rfl, hrx⟩ := hrel
                by_cases hjl : j < xs.length
                · have tj : decide ((j : Int) < xs.length) = true := decide_eq_true (by omega)
                  have hxj : xs[j]? = some xs[j] := List.getElem?_eq_getElem hjl
                  obtain ⟨Q, hQ, htx⟩ := HA.out.all.2 j _ hxj
                  obtain ⟨b2, off2, rfl, hbl2, e0, e1, e2, e3⟩ := H.out.on (below_tr (below_tr HB5.out HBA.out) hrx.out) j _ hxj
                  generalize xs[j] = tx at *
                  have hany := any_take Rs a j Q hQ
                  have hokQ := (HG.out Q (List.mem_of_getElem? hQ)).ok
                  have HSC := Lib.hid (fun w => (by
                    have h1 := specContains_any tx.a tx.b tx.c tx.d t Q a w htx.1 htx.2.1 htx.2.2.1 htx.2.2.2 (by rw [HT4.out]; exact readL_text HAO.out)
                    rw [hokQ, Bool.true_and] at h1
                    exact h1 : Calls Tryz.prog 21 #[.agg #[.string tx.a, .string tx.b, .string tx.c, .string tx.d], .string t] w (BelowPost w (.bool (inR Q a)))))
                  have HANY := Lib.hid hany
                  have HJL := Lib.hid hjl
                  clear hxj hQ htx hany hokQ
                  generalize (Rs.take j).any (fun R => inR R a) = bj at HANY ⊢
                  cases bj with
                  | true =>
                    go_wp2_with fail
                    go_roundw
                    case rel => exact ⟨j + 1, by simp, by have := HJL.out; omega, by rw [HANY.out, Bool.true_or], Lib.hid (hrx.out.alloc hrx.out.size _)⟩
                    case measure => simp [intOf]; have := HJL.out; omega
                  | false =>
                    go_wp2_with fail
                    refine (HSC.out _).mono ?_
                    rintro e w9 ⟨rfl, hb9⟩
                    have HB9 := Lib.hid (below_tr (hrx.out.alloc hrx.out.size _) hb9)
                    clear hb9 e0 e1 e2 e3
                    go_wp2_with fail
                    go_roundw
                    case rel => exact ⟨j + 1, by simp, by have := HJL.out; omega, by rw [HANY.out, Bool.false_or], HB9⟩
                    case measure => simp [intOf]; have := HJL.out; omega
                · have tj : decide ((j : Int) < xs.length) = false := decide_eq_false (by omega)
                  obtain rfl : j = xs.length := by omega
                  have hall : (Rs.take xs.length).any (fun R => inR R a) = true := by
                    rw [List.take_of_length_le (by omega)]
                    exact List.any_eq_true.2 ⟨R, HIN.out.1, HIN.out.2⟩
                  rw [hall]
                  have hrow := row_on hrx.out HROW.out
                  have d0 := cell_of_row wr OB 0 _ _ _ hrow
                  have d1 := cell_of_row wr OB 1 _ _ _ hrow
                  have d2 := cell_of_row wr OB 2 _ _ _ hrow
                  have d3 := cell_of_row wr OB 3 _ _ _ hrow
                  obtain ⟨D2, hown2, hmap2, hbel2⟩ := HRA.out.on hrx.out
                  have hkey := Go.WideMaps.keyOf_string_mk (P := Tryz.prog) Tryz.underlying9 (s := t) (by unfold maxLen; omega)
                  obtain ⟨c, hrun, hat⟩ := lookup_str hown2 kStr Tryz.underlying47 Tryz.underlying9 (zeroS wr) hkey
                  have htt : t.data.toList = a.text := HT4.out
                  have hc : c = ⟨#[]⟩ := by
                    rw [htt, hmap2.2, HHN.out] at hat
                    exact bl_inj (Lit.string.inj (DataW.lit.inj hat)).symm
                  subst hc
                  have HKEY := Lib.hid hkey
                  have HOWN2 := Lib.hid hown2
                  have HMAP2 := Lib.hid hmap2
                  have HBEL2 := Lib.hid hbel2
                  have hta : asked.toList.isEmpty = false → t = asked := fun he => by
                    cases had : ad with
                    | none =>
                      have h0 : asked = ⟨#[]⟩ := HFIT.out.ok.no had
                      rw [h0, Lib.toList_data] at he
                      cases he
                    | some b =>
                      have h1 := (HFIT.out.ok.yes b had).1
                      have e := HEQ.out b had
                      have h2 : bl asked = b.text := read_text h1
                      exact bl_inj (by rw [HT4.out, h2, e])
                  have HTA := Lib.hid hta
                  clear hkey hown2 hmap2 hbel2 hat htt hrow hrx hta hall
                  cases he : asked.toList.isEmpty with
                  | true =>
                    have hwz : (id ++ ⟨#[32]⟩ ++ at_).size ≤ maxLen := by
                      rw [← bl_length, bl_who]
                      unfold whoL maxLen
                      rw [List.length_append, List.length_cons, bl_length, bl_length]
                      omega
                    have HWP := Lib.hid (plainElem_string (H := Unit) (P := Tryz.prog) (e := 9) Tryz.underlying9 hwz)
                    clear hwz
                    go_wp2_with (first | (at_mapUpdate; refine wpList_mapUpdate_own _ rfl _ _ _ 47 rfl 9 9 kStr Tryz.underlying47 _ B (ts.length + k) _ rfl HOWN2.out (by unfold maxLen; omega) _ _ _ rfl rfl HKEY.out _ [] HWP.out ?_))
                    intro w7 hown7 hg7
                    have HN := Lib.hid (show OnRel w5 B (ts.length + (k + 1)) (runD Rs (rdL Rs) ⟨(tkDesk al).held, la⟩ (os.take (k + 1))).2.held w7 from by
                      rw [HG2.out, HHELD.out]
                      have h1 := HMAP2.out.put ⟨a, id, at_⟩ HHN.out
                      refine ⟨_, hown7, ?_, HBEL2.out.grown hg7 HBEL2.out.size (fun q hq => by cases hq; rw [HB.out]; exact Nat.le_refl _)⟩
                      have e1 : t.data.toList = a.text := HT4.out
                      rw [e1]
                      exact h1)
                    clear hown7 hg7
                    go_wp2_with fail
                    go_roundw
                    case rel => exact ⟨k + 1, by simp, by omega, HN⟩
                    case measure => simp [intOf]; omega
                  | false =>
                    obtain rfl := HTA.out he
                    have q2 : (t.toList == t.toList) = true := by simp
                    have hwz : (id ++ ⟨#[32]⟩ ++ at_).size ≤ maxLen := by
                      rw [← bl_length, bl_who]
                      unfold whoL maxLen
                      rw [List.length_append, List.length_cons, bl_length, bl_length]
                      omega
                    have HWP := Lib.hid (plainElem_string (H := Unit) (P := Tryz.prog) (e := 9) Tryz.underlying9 hwz)
                    clear hwz
                    go_wp2_with (first | (at_mapUpdate; refine wpList_mapUpdate_own _ rfl _ _ _ 47 rfl 9 9 kStr Tryz.underlying47 _ B (ts.length + k) _ rfl HOWN2.out (by unfold maxLen; omega) _ _ _ rfl rfl HKEY.out _ [] HWP.out ?_))
                    intro w7 hown7 hg7
                    have HN := Lib.hid (show OnRel w5 B (ts.length + (k + 1)) (runD Rs (rdL Rs) ⟨(tkDesk al).held, la⟩ (os.take (k + 1))).2.held w7 from by
                      rw [HG2.out, HHELD.out]
                      have h1 := HMAP2.out.put ⟨a, id, at_⟩ HHN.out
                      refine ⟨_, hown7, ?_, HBEL2.out.grown hg7 HBEL2.out.size (fun q hq => by cases hq; rw [HB.out]; exact Nat.le_refl _)⟩
                      have e1 : t.data.toList = a.text := HT4.out
                      rw [e1]
                      exact h1)
                    clear hown7 hg7
                    go_wp2_with fail
                    go_roundw
                    case rel => exact ⟨k + 1, by simp, by omega, HN⟩
                    case measure => simp [intOf]; omega
          · by_cases k1 : kind = 1
            · subst k1
              have c0 : wr.cell? ⟨b, off + k * 4, none⟩ = some (.int .i64 1) := c0
              obtain ⟨D2, hown2, hmap2, hbel2⟩ := HR.out.on ((Below.refl wr.heap.size wr).alloc (Nat.le_refl _) (.cells #[.int .i64 1, .string id, .string at_, .string asked] 45))
              have HOWN2 := Lib.hid hown2
              have HMAP2 := Lib.hid hmap2
              have HBEL2 := Lib.hid hbel2
              clear hown2 hmap2 hbel2 g0 g2
              go_wp2_with (first | (at_range; refine wpList_range_own _ rfl _ 47 rfl 9 9 kStr Tryz.underlying47 (plainElem Tryz.prog 9) B (ts.length + k) D2 rfl HOWN2.out ?_; intro w0 hrg0 hg0 hs0))
              go_frame
              obtain ⟨r, hr0⟩ : ∃ r, r = (wr.alloc (.cells #[.int .i64 1, .string id, .string at_, .string asked] 45)).heap.size := ⟨_, rfl⟩
              have hrW : w5.heap.size ≤ r := by
                have := HBEL2.out.size
                omega
              have HMID := Lib.hid (show OnMid w5 B r (ts.length + k) d.held (whoL id at_) w0 from ⟨_, _, D2, by rw [hr0]; exact hrg0, HMAP2.out.start _, HBEL2.out.grown hg0 HBEL2.out.size (fun q hq => by cases hq)⟩)
              have HDEL := Lib.hid (show (runD Rs (rdL Rs) ⟨(tkDesk al).held, la⟩ (os.take (k + 1))).2.held = d.held.filter fun e => !whoB e.id e.at_ id at_ by rw [HG2.out]; rfl)
              try rw [← hr0]
              rw [World.size_alloc] at hr0
              try rw [← hr0]
              have HR0 := Lib.hid hr0
              clear hr0
              clear hrg0 hg0 hs0 HOWN2 HMAP2 HBEL2 c0 c1 c2 c3
              go_loopw [22] (fun _ wx => Hid (OnMid w5 B r (ts.length + k) d.held (whoL id at_) wx)) (fun _ wx => wx.rangeLeft B r)
              case atStart => exact HMID
              case round =>
                obtain ⟨left, cnt, D3, hrg, hlm, hbx⟩ := hrel.out
                have HRG := Lib.hid hrg
                have HLM := Lib.hid hlm
                have HBX := Lib.hid hbx
                clear hrg hlm hbx
                go_wp2_with (first | (at_next; refine wpList_next_ranges_ss _ rfl _ rfl 9 9 kStr Tryz.underlying9 Tryz.underlying9 B r (ts.length + k) D3 left cnt rfl HRG.out ?_ ?_))
                · intro hc0 hl0
                  have HN := Lib.hid (show OnRel w5 B (ts.length + (k + 1)) (runD Rs (rdL Rs) ⟨(tkDesk al).held, la⟩ (os.take (k + 1))).2.held wr from by
                    rw [HDEL.out]
                    exact OnRel.more ⟨D3, HRG.out.owns, HLM.out.finish hl0 HDON.out.once HDON.out.words HFIT.out.s1, HBX.out⟩ (by omega))
                  clear hc0 hl0
                  go_wp2_with fail
                  go_roundw
                  case rel => exact ⟨k + 1, by simp, by omega, HN⟩
                  case measure => simp [intOf]; omega
                · intro x c w1' cnt1 hxs hlx hat hrg1 hlt1 hgr1 hs1 hen
                  have HLX := Lib.hid hlx
                  have HAT1 := Lib.hid hat
                  have HRG1 := Lib.hid hrg1
                  have HLT1 := Lib.hid hlt1
                  have HB1' := Lib.hid (show Below w5.heap.size w5 w1' from HBX.out.grown hgr1 HBX.out.size (fun q hq => by cases hq; exact hrW))
                  have HXS := Lib.hid hxs
                  clear hlx hat hrg1 hlt1 hgr1 hs1 hxs
                  by_cases hc : c = id ++ ⟨#[32]⟩ ++ at_
                  · have tq : (c.toList == (id ++ ⟨#[32]⟩ ++ at_).toList) = true := by rw [hc]; simp
                    have HC := Lib.hid (show c.data.toList = whoL id at_ by rw [hc]; exact bl_who id at_)
                    clear hc
                    go_wp2_with (first | (at_delete; refine wpList_delete_ranges _ rfl _ _ 47 9 rfl 9 kStr Tryz.underlying47 _ B r (ts.length + k) _ _ _ rfl HRG1.out _ _ rfl (Go.WideMaps.keyOf_string_mk (P := Tryz.prog) Tryz.underlying9 (s := x) HXS.out) ?_))
                    intro w2' cnt2 hrg2 hle hturn
                    have hm : OnMid w5 B r (ts.length + k) d.held (whoL id at_) w2' := by
                      try rw [Maps.strike_twice] at hrg2
                      refine ⟨_, cnt2, _, hrg2, HLM.out.struck _ HLX.out (fun z => by rw [HAT1.out z, HC.out]), HB1'.out.grown hturn.grown HB1'.out.size (fun q hq => by cases hq; rw [HB.out]; exact Nat.le_refl _)⟩
                    have HMS := Lib.hid (show w2'.rangeLeft B r < wr.rangeLeft B r by
                      rw [hrg2.left_eq, HRG.out.left_eq]
                      have := HLT1.out
                      omega)
                    have HM2 := Lib.hid hm
                    clear hrg2 hle hturn hm
                    go_wp2_with fail
                    go_roundw
                    case rel => exact HM2
                    case measure => exact HMS.out
                  · have tq : (c.toList == (id ++ ⟨#[32]⟩ ++ at_).toList) = false := by
                      rw [beq_eq_false_iff_ne]
                      intro e
                      rw [Lib.toList_data, Lib.toList_data] at e
                      exact hc (bl_inj e)
                    have hne : c.data.toList ≠ whoL id at_ := fun e => hc (bl_inj (e.trans (bl_who id at_).symm))
                    have HMS := Lib.hid (show w1'.rangeLeft B r < wr.rangeLeft B r by
                      rw [HRG1.out.left_eq, HRG.out.left_eq]
                      exact HLT1.out)
                    have HM2 := Lib.hid (show OnMid w5 B r (ts.length + k) d.held (whoL id at_) w1' from ⟨_, cnt1, _, HRG1.out, HLM.out.stays _ _ HLX.out HAT1.out hne, HB1'.out⟩)
                    clear hc hne
                    go_wp2_with fail
                    go_roundw
                    case rel => exact HM2
                    case measure => exact HMS.out
            · obtain rfl : kind = 2 := by omega
              have c0 : wr.cell? ⟨b, off + k * 4, none⟩ = some (.int .i64 2) := c0
              have HN := Lib.hid (show OnRel w5 B (ts.length + (k + 1)) (runD Rs (rdL Rs) ⟨(tkDesk al).held, la⟩ (os.take (k + 1))).2.held (wr.alloc (.cells #[.int .i64 2, .string id, .string at_, .string asked] 45)) from by
                rw [HG2.out]
                exact (HR.out.on ((Below.refl _ _).alloc (Nat.le_refl _) _)).more (by omega))
              go_wp2_with fail
              go_roundw
              case rel => exact ⟨k + 1, by simp, by omega, HN⟩
              case measure => simp [intOf]; omega
        · have tk : decide ((k : Int) < ys.length) = false := decide_eq_false (by omega)
          go_wp2_with fail
          go_ret
          obtain ⟨D, _, _, h3⟩ := hr.out
          exact ⟨rfl, below_tr HB5.out h3⟩

end Go.Proofs.YtnehofekgnbelaaGreatDoor

/-
  laws.FnRound returns true.
-/
import Derived.Test.YtnehofekgnbelaaGreatDoorK15
import Derived.Test.YtnehofekgnbelaaGreatDoorK17
import Derived.Maps.Views
namespace Go.Proofs.YtnehofekgnbelaaGreatDoor
open Go.RowKit Go.Maps
set_option linter.unusedVariables false
set_option maxRecDepth 100000
set_option maxHeartbeats 1000000

/-- The map holds just these texts. -/
def MetIs (D : DataW Unit) (l : List (List UInt8)) : Prop := Maps.IsMap D ∧ ∀ x z, D.atKey (.string x) z = if x ∈ l then .lit (.bool true) else z
theorem metIs_empty : MetIs (.map []) [] := ⟨Maps.isMap_empty, fun x z => rfl⟩
theorem MetIs.put {D : DataW Unit} {l : List (List UInt8)} (h : MetIs D l) (y : List UInt8) : MetIs (D.put (.string y) (.lit (.bool true))) (l ++ [y]) := by
  refine ⟨h.1.put _ _, fun x z => ?_⟩
  by_cases e : x = y
  · subst e
    rw [Maps.atKey_put_same h.1 (by trivial), if_pos (by simp)]
  · rw [Maps.atKey_put_other (fun h => e (Lit.string.inj h)), h.2 x z]
    by_cases hm : x ∈ l
    · rw [if_pos hm, if_pos (by simp [hm])]
    · rw [if_neg hm, if_neg (by simp [hm, e])]

def RoRel (w5 : World) (B n : Nat) (l : List (List UInt8)) (wr : World) : Prop := ∃ D : DataW Unit, wr.ownsMap Tryz.prog 9 (plainElem Tryz.prog 4) B n D ∧ MetIs D l ∧ Below w5.heap.size w5 wr

theorem lawRo (ao : Option Addr) (cap : Nat) (xs : List Tx) (last : ByteArray) (n : Int) (w : World) (h : RgsV w ao xs) (htab : Tab w) :
    Calls Tryz.prog 7 #[.slice ao xs.length cap, .string last, .int .i64 n] w (LawPost w) := by
  have H := Lib.hid h
  have HTAB := Lib.hid htab
  have hmm := @run_makeMap Tryz.prog
  obtain ⟨i0, hi', hz⟩ := Option.map_eq_some_iff.1 infoOp
  simp only [Prod.mk.injEq] at hz
  obtain ⟨hz0, hz1, hz2⟩ := hz
  have HI0 := Lib.hid hi'
  have HZ0 := Lib.hid hz0
  have HZ1 := Lib.hid hz1
  have HZ2 := Lib.hid hz2
  clear h htab hi' hz0 hz1 hz2
  go_enter Tryz.func7, Tryz.ntmps7
  go_wp2_with fail
  refine (fits2_any ao cap xs _ H.out).mono ?_
  rintro e w1 ⟨ok, rfl, hf, hb1⟩
  have HB1 := Lib.hid hb1
  clear hb1
  cases ok with
  | false =>
    clear hf
    go_wp2_with fail
    go_ret
    exact ⟨rfl, HB1.out⟩
  | true =>
    obtain ⟨hn, hfit⟩ := hf rfl
    have HF := Lib.hid hfit
    clear hf hfit
    by_cases hl : last.size ≤ 2147483647
    rotate_left
    · have tl : decide ((2147483647 : Int) < last.size) = true := decide_eq_true (by omega)
      go_wp2_with fail
      go_ret
      exact ⟨rfl, HB1.out⟩
    have tl : decide ((2147483647 : Int) < last.size) = false := decide_eq_false (by omega)
    go_wp2_with fail
    refine (isAsked_any ao cap xs (.slice none 0 0) [] last none 0 [] _ (H.out.on HB1.out) HF.out hn (strVals_nil _) (fun s hs => by cases hs) hl (opsT_nil _ _) (fun j x hx => by cases hx) (by decide)).mono ?_
    rintro e w2 ⟨ok, rfl, hq, hb2⟩
    have HB2 := Lib.hid (below_tr HB1.out hb2)
    clear hb2
    cases ok with
    | false =>
      clear hq
      go_wp2_with fail
      go_ret
      exact ⟨rfl, HB2.out⟩
    | true =>
      by_cases n1 : n < 1
      · have t1 : decide (n < 1) = true := decide_eq_true n1
        clear hq n1
        go_wp2_with fail
        go_ret
        exact ⟨rfl, HB2.out⟩
      have t1 : decide (n < 1) = false := decide_eq_false n1
      by_cases n30 : 30 < n
      · have t30 : decide (30 < n) = true := decide_eq_true n30
        clear hq n1 n30
        go_wp2_with fail
        go_ret
        exact ⟨rfl, HB2.out⟩
      have t30 : decide (30 < n) = false := decide_eq_false n30
      obtain ⟨m, rfl⟩ : ∃ m : Nat, n = m := ⟨n.toNat, by omega⟩
      have hm1 : 1 ≤ m := by omega
      have hm30 : m ≤ 30 := by omega
      obtain ⟨Rs, al, la, os0, hA⟩ := hq rfl
      have HA := Lib.hid hA
      have h4 := hA.l4
      have HSZ := Lib.hid (fun (W : World) (hb : RgsV W ao xs) => specSize_any ao cap xs Rs W hb hA.all (by omega))
      obtain ⟨_, hz, hs1000⟩ := sizeZ_set hA.size
      rw [hz] at HSZ
      obtain ⟨N, hN⟩ : ∃ N, N = sumR Rs := ⟨_, rfl⟩
      rw [← hN] at HSZ hs1000
      have HN := Lib.hid hN
      clear hq hA hz hN n1 n30
      go_wp2_with fail
      refine (HSZ.out _ (H.out.on HB2.out)).mono ?_
      rintro e w3 ⟨rfl, hb3⟩
      have HB3 := Lib.hid (below_tr HB2.out hb3)
      clear hb3
      by_cases hmN : N < m
      · have tz : decide ((N : Int) < m) = true := decide_eq_true (by omega)
        go_wp2_with fail
        go_ret
        exact ⟨rfl, HB3.out⟩
      have tz : decide ((N : Int) < m) = false := decide_eq_false (by omega)
      obtain ⟨wz, hwz⟩ : ∃ wz, wz = w3 := ⟨_, rfl⟩
      subst hwz
      go_wp2_with fail
      go_loopw [7, 8] (fun v i wr => ∃ k : Nat, i = .int .i64 k ∧ k ≤ m ∧ Hid (wr.ownsRow wz.heap.size 45 4 v (2 * k) (flatO (roOps k)) ∧ Below wz.heap.size wz wr)) (fun _ i _ => m - (intOf i).toNat)
      case atStart => exact ⟨0, rfl, by omega, Lib.hid ⟨World.ownsRow_lit wz #[] 0 (Nat.le_refl _) (by decide) (by rfl), (Below.refl _ _).alloc (Nat.le_refl _) _⟩⟩
      case round =>
        obtain ⟨k, rfl, hk, hr⟩ := hrel
        obtain ⟨av, cv, rfl, hav⟩ := own_form hr.out.1
        have HAV := Lib.hid hav
        clear hav
        by_cases hlt : k < m
        · have tk : decide ((k : Int) < m) = true := decide_eq_true (by omega)
          have HNEW := Lib.hid (show ∀ (j : Nat) (u : Value), (flatO [gOp, rOp])[j]? = some u → (wr.alloc (.cells #[.int .i64 0, .string ⟨#[97]⟩, .string ⟨#[101]⟩, .string ⟨#[]⟩, .int .i64 1, .string ⟨#[97]⟩, .string ⟨#[101]⟩, .string ⟨#[]⟩] 45)).cell? ((⟨wr.heap.size, 0, none⟩ : Addr).add j) = some u from fun j u hu => by
            rw [Addr.add_lit, Nat.zero_add, cell_of_row _ _ j _ _ _ (heap_alloc_new wr _), ← hu, List.getElem?_toArray]
            rfl)
          go_wp2_with (focus (at_builtin; go_must (refine wpList_append_own _ rfl _ _ 30 rfl wz.heap.size 45 i0 (.agg #[.int .i64 0, .string ⟨#[]⟩, .string ⟨#[]⟩, .string ⟨#[]⟩]) 4 56 Tryz.underlying30 HI0.out HZ0.out HZ1.out HZ2.out (by rfl) (by decide) _ (2 * k) (flatO (roOps k)) rfl (own_on hr.out.1 ((Below.refl _ _).alloc (Nat.le_refl _) _)) ⟨wr.heap.size, 0, none⟩ 2 2 (flatO [gOp, rOp]) rfl rfl HNEW.out (fun u hu => ?_) (by unfold maxLen; omega) (by omega) (by have := hr.out.2.size; simp; omega) ?_)))
          · simp only [flatO, List.flatMap_cons, List.flatMap_nil, List.append_nil, List.mem_append] at hu
            rcases hu with hu | hu
            · exact op_one _ u hu
            · exact op_one _ u hu
          intro v' w' hown hg _
          have HN2 := Lib.hid (show w'.ownsRow wz.heap.size 45 4 v' (2 * (k + 1)) (flatO (roOps (k + 1))) ∧ Below wz.heap.size wz w' from by
            refine ⟨?_, (hr.out.2.alloc hr.out.2.size _).grown hg (by have := hr.out.2.size; simp; omega) (fun q hq => (hr.out.1.lt q hq).1)⟩
            show w'.ownsRow wz.heap.size 45 4 v' (2 * k + 2) (flatO (roOps k ++ [gOp, rOp]))
            rw [flatO_append]
            exact hown)
          clear hown hg
          go_wp2_with fail
          go_roundw
          case rel => exact ⟨k + 1, by simp, by omega, HN2⟩
          case measure => simp [intOf]; omega
        · have tk : decide ((k : Int) < m) = false := decide_eq_false (by omega)
          obtain rfl : k = m := by omega
          obtain ⟨g, rfl⟩ := HAV.out (by omega)
          have hlen := roOps_length k
          have hov := opsV_own hr.out.1 hlen
          have HAL := Lib.hid (allocate_asked ao cap xs (.slice none 0 0) [] last [] Rs al la os0 HA.out (some ⟨g, 0, none⟩) cv (roOps k) wr ((H.out.on HB3.out).on hr.out.2) (strVals_nil _) hov roOp_fit (by omega) ((HTAB.out.on HB3.out).on hr.out.2))
          obtain ⟨hgood, hdis, hne⟩ := asked_good HA.out
          have hal : al = [] := by
            have := HA.out.tk.1
            exact List.eq_nil_of_length_eq_zero this
          have hend := ro_end hgood hdis la k (by have := HN.out; omega)
          have hgl := (runD_length Rs (rdL Rs) ⟨(tkDesk al).held, la⟩ (roOps k)).1
          subst hal
          obtain ⟨hheld, F, hfl, hinj, hgiv⟩ := hend
          have hd0 : (⟨(tkDesk []).held, la⟩ : Desk) = ⟨[], la⟩ := rfl
          rw [hd0] at HAL hgl
          rw [hheld, show sortL (([] : List Ent).map leftB) = [] by simp [sortL]] at HAL
          generalize (runD Rs (rdL Rs) ⟨[], la⟩ (roOps k)).1 = gs at *
          rw [hlen] at HAL hgl
          have HGIV := Lib.hid hgiv
          have HINJ := Lib.hid hinj
          have HFL := Lib.hid hfl
          have HW := Lib.hid hr.out.2
          clear hov hgood hdis hne hgiv hinj hfl hheld hd0 hlen hr HAV
          go_wp2_with fail
          refine HAL.out.mono ?_
          rintro e w5 ⟨gao, gcap, lao, lcap, rfl, hb5, hcg, _⟩
          have HB5 := Lib.hid (below_tr (below_tr HB3.out HW.out) hb5)
          have HCG := Lib.hid hcg
          clear hb5 hcg HAL
          rw [hgl]
          obtain ⟨B, hB⟩ : ∃ B, B = w5.heap.size := ⟨_, rfl⟩
          have HMM := Lib.hid (show RoRel w5 B 0 ((List.range 0).map F) (w5.alloc (.map #[] 0)) from ⟨.map [], by rw [hB]; exact World.ownsMap_made _ _ _ _, metIs_empty, (Below.refl _ _).alloc (Nat.le_refl _) _⟩)
          go_wp2_with fail
          rw [← hB]
          have HB := Lib.hid hB
          clear hB
          generalize w5.alloc (.map #[] 0) = w6 at HMM ⊢
          go_loopw [13] (fun i wr => ∃ m j : Nat, m = 2 * j ∧ i = .int .i64 m ∧ j ≤ k ∧ Hid (RoRel w5 B j ((List.range j).map F) wr)) (fun i _ => 2 * k - (intOf i).toNat)
          case atStart => exact ⟨0, 0, rfl, rfl, by omega, HMM⟩
          case round =>
            obtain ⟨m, j, hm, rfl, hj, hr⟩ := hrel
            by_cases hjl : j < k
            · have tj : decide ((m : Int) < 2 * (k : Int)) = true := decide_eq_true (by omega)
              obtain ⟨gv, hg1, hg2, hg3⟩ := HGIV.out j hjl
              rw [← hm] at hg1
              obtain ⟨b, rfl, hbl, c0, _, c2⟩ := HCG.out m _ hg1
              obtain ⟨D, hown, hmet, hbel⟩ := hr.out
              obtain ⟨s, hs⟩ : ∃ s : ByteArray, s = ⟨gv.addr.toArray⟩ := ⟨_, rfl⟩
              have hsl : s.data.toList = F j := by rw [hs, ← hg3]
              have hsz : s.size ≤ 64 := by
                have h1 := HFL.out j hjl
                rw [← hsl] at h1
                simpa using h1
              rw [← hs] at c0
              rw [hg2] at c2
              have c0 := (hbel.cell (p := ⟨b, m * 3, none⟩) hbl).trans c0
              have c2 := (hbel.cell (p := ⟨b, m * 3 + 2, none⟩) hbl).trans c2
              have hbl := Nat.lt_of_lt_of_le hbl hbel.size
              have hkey := Go.WideMaps.keyOf_string_mk (P := Tryz.prog) Tryz.underlying9 (s := s) (by unfold maxLen; omega)
              obtain ⟨c, hrun, hat⟩ := lookup_bool hown kStr Tryz.underlying50 Tryz.underlying4 (zeroB wr) hkey
              have hc : c = false := by
                rw [hsl, hmet.2, if_neg (fun hx => by
                  obtain ⟨i, hi, he⟩ := List.mem_map.1 hx
                  have hi := List.mem_range.1 hi
                  have := HINJ.out i j (by omega) hjl he
                  omega)] at hat
                cases hat
                rfl
              subst hc
              have HKEY := Lib.hid hkey
              have HOWN := Lib.hid hown
              have HMET := Lib.hid hmet
              have HBEL := Lib.hid hbel
              have HSL := Lib.hid hsl
              have HM := Lib.hid hm
              have q0 : (0 : Int) ≤ (m : Int) := by omega
              have q1 : m < 2 * k := by omega
              have q2 : m + 2 ≤ 2 * k := by omega
              clear hkey hown hmet hbel hsl hs hr hat hg1 hg2 hg3 hm
              go_wp2_with (first | (at_mapUpdate; refine wpList_mapUpdate_own _ rfl _ _ _ 50 rfl 9 4 kStr Tryz.underlying50 _ B j _ rfl HOWN.out (by unfold maxLen; omega) _ _ _ rfl rfl HKEY.out _ [] (plainElem_bool Tryz.underlying4 true) ?_))
              intro w7 hown7 hg7
              have HN3 := Lib.hid (show RoRel w5 B (j + 1) ((List.range (j + 1)).map F) w7 from by
                have h1 := HMET.out.put s.data.toList
                rw [HSL.out] at h1
                rw [HSL.out] at hown7
                rw [List.range_succ, List.map_append]
                exact ⟨_, hown7, h1, HBEL.out.grown hg7 HBEL.out.size (fun q hq => by cases hq; rw [HB.out]; exact Nat.le_refl _)⟩)
              clear hown7 hg7
              go_wp2_with fail
              go_roundw
              case rel => exact ⟨m + 2, j + 1, by have := HM.out; omega, by simp, by omega, HN3⟩
              case measure => simp [intOf]; omega
            · have tj : decide ((m : Int) < 2 * (k : Int)) = false := decide_eq_false (by omega)
              go_wp2_with fail
              go_ret
              obtain ⟨D, _, _, h3⟩ := hr.out
              exact ⟨rfl, below_tr HB5.out h3⟩

end Go.Proofs.YtnehofekgnbelaaGreatDoor

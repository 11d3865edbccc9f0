/-
  laws.FnExhausted returns true.
-/
import Derived.Test.YtnehofekgnbelaaGreatDoorK15
namespace Go.Proofs.YtnehofekgnbelaaGreatDoor
open Go.RowKit
set_option linter.unusedVariables false
set_option maxRecDepth 100000
set_option maxHeartbeats 1000000

theorem lawEx (ao : Option Addr) (cap : Nat) (xs : List Tx) (last : ByteArray) (w : World) (h : RgsV w ao xs) (htab : Tab w) :
    Calls Tryz.prog 5 #[.slice ao xs.length cap, .string last] w (LawPost w) := by
  have H := Lib.hid h
  have HTAB := Lib.hid htab
  have kc := fun (w : World) (d0 d1 : Int) => conv_two (P := Tryz.prog) w 43 9 5 d0 d1 0 0 w.heap.size rfl Tryz.underlying43 Tryz.underlying5 Tryz.underlying9
  obtain ⟨i0, hi', hz⟩ := Option.map_eq_some_iff.1 infoOp
  simp only [Prod.mk.injEq] at hz
  obtain ⟨hz0, hz1, hz2⟩ := hz
  have HI0 := Lib.hid hi'
  have HZ0 := Lib.hid hz0
  have HZ1 := Lib.hid hz1
  have HZ2 := Lib.hid hz2
  clear h htab hi' hz0 hz1 hz2
  go_enter Tryz.func5, Tryz.ntmps5
  go_wp2_with fail
  refine (fits2_any ao cap xs _ H.out).mono ?_
  rintro e w1 ⟨ok, rfl, hf, hb1⟩
  have HB1 := Lib.hid hb1
  clear hb1
  cases ok with
  | false =>
    clear hf
    go_wp2_with fail
    go_ret
    exact ⟨rfl, HB1.out⟩
  | true =>
    obtain ⟨hn, hfit⟩ := hf rfl
    have HF := Lib.hid hfit
    clear hf hfit
    by_cases hl : last.size ≤ 2147483647
    rotate_left
    · have tl : decide ((2147483647 : Int) < last.size) = true := decide_eq_true (by omega)
      go_wp2_with fail
      go_ret
      exact ⟨rfl, HB1.out⟩
    have tl : decide ((2147483647 : Int) < last.size) = false := decide_eq_false (by omega)
    go_wp2_with fail
    refine (isAsked_any ao cap xs (.slice none 0 0) [] last none 0 [] _ (H.out.on HB1.out) HF.out hn (strVals_nil _) (fun s hs => by cases hs) hl (opsT_nil _ _) (fun j x hx => by cases hx) (by decide)).mono ?_
    rintro e w2 ⟨ok, rfl, hq, hb2⟩
    have HB2 := Lib.hid (below_tr HB1.out hb2)
    clear hb2
    cases ok with
    | false =>
      clear hq
      go_wp2_with fail
      go_ret
      exact ⟨rfl, HB2.out⟩
    | true =>
      obtain ⟨Rs, al, la, os0, hA⟩ := hq rfl
      have HA := Lib.hid hA
      have h4 := hA.l4
      have HSZ := Lib.hid (fun (W : World) (hb : RgsV W ao xs) => specSize_any ao cap xs Rs W hb hA.all (by omega))
      obtain ⟨_, hz, hs1000⟩ := sizeZ_set hA.size
      rw [hz] at HSZ
      obtain ⟨N, hN⟩ : ∃ N, N = sumR Rs := ⟨_, rfl⟩
      rw [← hN] at HSZ hs1000
      have HN := Lib.hid hN
      clear hq hA hz hN
      go_wp2_with fail
      refine (HSZ.out _ (H.out.on HB2.out)).mono ?_
      rintro e w3 ⟨rfl, hb3⟩
      have HB3 := Lib.hid (below_tr HB2.out hb3)
      clear hb3
      by_cases h30 : 30 < N
      · have tz : decide ((30 : Int) < N) = true := decide_eq_true (by omega)
        go_wp2_with fail
        go_ret
        exact ⟨rfl, HB3.out⟩
      have tz : decide ((30 : Int) < N) = false := decide_eq_false (by omega)
      go_wp2_with fail
      refine (HSZ.out _ (H.out.on HB3.out)).mono ?_
      rintro e w4 ⟨rfl, hb4⟩
      have HB4 := Lib.hid (below_tr HB3.out hb4)
      clear hb4
      obtain ⟨wz, hwz⟩ : ∃ wz, wz = w4 := ⟨_, rfl⟩
      subst hwz
      go_wp2_with fail
      go_loopw [6, 7] (fun v i wr => ∃ k : Nat, i = .int .i64 k ∧ k ≤ N + 1 ∧ Hid (wr.ownsRow wz.heap.size 45 4 v k (flatO (exOps k)) ∧ Below wz.heap.size wz wr)) (fun _ i _ => N + 1 - (intOf i).toNat)
      case atStart => exact ⟨0, rfl, by omega, Lib.hid ⟨World.ownsRow_lit wz #[] 0 (Nat.le_refl _) (by decide) (by rfl), (Below.refl _ _).alloc (Nat.le_refl _) _⟩⟩
      case round =>
        obtain ⟨k, rfl, hk, hr⟩ := hrel
        obtain ⟨av, cv, rfl, hav⟩ := own_form hr.out.1
        have HAV := Lib.hid hav
        clear hav
        by_cases hlt : k ≤ N
        · have tk : decide ((k : Int) ≤ N) = true := decide_eq_true (by omega)
          have HNEW := Lib.hid (show ∀ (j : Nat) (u : Value), ((exOp k).vals)[j]? = some u → ((wr.alloc (.cells #[.int .u8 (97 + (k : Int) % 26), .int .u8 (97 + (k : Int) / 26)] 5)).alloc (.cells #[.int .i64 0, .string ⟨#[97 + UInt8.ofNat (k % 26), 97 + UInt8.ofNat (k / 26)]⟩, .string ⟨#[101]⟩, .string ⟨#[]⟩] 45)).cell? ((⟨wr.heap.size + 1, 0, none⟩ : Addr).add j) = some u from fun j u hu => by
            have hn := heap_alloc_new (wr.alloc (.cells #[.int .u8 (97 + (k : Int) % 26), .int .u8 (97 + (k : Int) / 26)] 5)) (.cells #[.int .i64 0, .string ⟨#[97 + UInt8.ofNat (k % 26), 97 + UInt8.ofNat (k / 26)]⟩, .string ⟨#[101]⟩, .string ⟨#[]⟩] 45)
            rw [World.size_alloc] at hn
            rw [Addr.add_lit, Nat.zero_add, cell_of_row _ _ j _ _ _ hn, ← hu, List.getElem?_toArray]
            show _ = ([.int .i64 0, .string (idL k), .string eL, .string ⟨#[]⟩] : List Value)[j]?
            rw [idL_eq]
            rfl)
          go_wp2_with (focus (at_builtin; go_must (refine wpList_append_own _ rfl _ _ 30 rfl wz.heap.size 45 i0 (.agg #[.int .i64 0, .string ⟨#[]⟩, .string ⟨#[]⟩, .string ⟨#[]⟩]) 4 56 Tryz.underlying30 HI0.out HZ0.out HZ1.out HZ2.out (by rfl) (by decide) _ k (flatO (exOps k)) rfl (own_on hr.out.1 (((Below.refl _ _).alloc (Nat.le_refl _) _).alloc (by simp) _)) ⟨wr.heap.size + 1, 0, none⟩ 1 1 ((exOp k).vals) rfl rfl HNEW.out (op_one (exOp k)) (by unfold maxLen; omega) (by omega) (by have := hr.out.2.size; simp; omega) ?_)))
          intro v' w' hown hg _
          have HN2 := Lib.hid (show w'.ownsRow wz.heap.size 45 4 v' (k + 1) (flatO (exOps (k + 1))) ∧ Below wz.heap.size wz w' from by
            refine ⟨?_, ((hr.out.2.alloc hr.out.2.size _).alloc (by have := hr.out.2.size; simp; omega) _).grown hg (by have := hr.out.2.size; simp; omega) (fun q hq => (hr.out.1.lt q hq).1)⟩
            rw [exOps_succ, flatO_append, show flatO [exOp k] = (exOp k).vals by simp [flatO]]
            exact hown)
          clear hown hg
          go_wp2_with fail
          go_roundw
          case rel => exact ⟨k + 1, by simp, by omega, HN2⟩
          case measure => simp [intOf]; omega
        · have tk : decide ((k : Int) ≤ N) = false := decide_eq_false (by omega)
          obtain rfl : k = N + 1 := by omega
          obtain ⟨g, rfl⟩ := HAV.out (by omega)
          have hlen := exOps_length (N + 1)
          have hov := opsV_own hr.out.1 hlen
          have hal := allocate_asked ao cap xs (.slice none 0 0) [] last [] Rs al la os0 HA.out (some ⟨g, 0, none⟩) cv (exOps (N + 1)) wr ((H.out.on HB4.out).on hr.out.2) (strVals_nil _) hov (fun o ho => by
            obtain ⟨j, hj⟩ := List.getElem?_of_mem ho
            have hjl := (List.getElem?_eq_some_iff.1 hj).1
            rw [hlen] at hjl
            rw [exOps_at _ j hjl] at hj
            cases hj
            exact exOp_fit j (by omega)) (by omega) ((HTAB.out.on HB4.out).on hr.out.2)
          obtain ⟨hgood, hdis, hne⟩ := asked_good HA.out
          have hnil : al = [] := List.eq_nil_of_length_eq_zero HA.out.tk.1
          subst hnil
          obtain ⟨he1, he2, he3⟩ := ex_end hgood hdis la (by rw [← HN.out]; omega)
          rw [← HN.out] at he1 he2 he3
          have hd0 : (⟨(tkDesk []).held, la⟩ : Desk) = ⟨[], la⟩ := rfl
          rw [hd0] at hal
          have hgl := (runD_length Rs (rdL Rs) ⟨[], la⟩ (exOps (N + 1))).1
          rw [hlen] at hal hgl
          generalize (runD Rs (rdL Rs) ⟨[], la⟩ (exOps (N + 1))).1 = gs at hal he1 he2 hgl
          have hll : (sortL ((runD Rs (rdL Rs) ⟨[], la⟩ (exOps (N + 1))).2.held.map leftB)).length = N := by rw [sortL_length, List.length_map, he3]
          generalize sortL ((runD Rs (rdL Rs) ⟨[], la⟩ (exOps (N + 1))).2.held.map leftB) = ls at hal hll
          have HAL := Lib.hid hal
          have HE1 := Lib.hid he1
          have HE2 := Lib.hid he2
          have HW := Lib.hid (below_tr HB4.out hr.out.2)
          clear hal he1 he2 he3 hov hgood hdis hne hd0 hlen hr HAV
          go_wp2_with fail
          refine HAL.out.mono ?_
          rintro e w5 ⟨gao, gcap, lao, lcap, rfl, hb5, hcg, _⟩
          have HB5 := Lib.hid (below_tr HW.out hb5)
          have HCG := Lib.hid hcg
          clear hb5 hcg HAL
          have hGN : gs[N]? = some gs[N] := List.getElem?_eq_getElem (by omega)
          have hgN := HE2.out _ hGN
          obtain ⟨b, rfl, hbl, k0, k1, k2⟩ := HCG.out N _ hGN
          rw [hgN] at k2
          rw [hgl, hll]
          have HGL := Lib.hid hgl
          clear hgl hll hGN hgN k0 k1
          have q0 : (0 : Int) ≤ (N : Int) := by omega
          go_wp2_with fail
          go_loop [11] (fun i => ∃ j : Nat, j ≤ N ∧ i = .int .i64 j) (fun i => N - (intOf i).toNat)
          case atStart => exact ⟨0, Nat.zero_le _, rfl⟩
          case round =>
            obtain ⟨j, hj, rfl⟩ := hrel
            by_cases hjl : j < N
            · have tj : decide ((j : Int) < N) = true := decide_eq_true (by omega)
              have hjg : j < gs.length := by have := HGL.out; omega
              have hGj : gs[j]? = some gs[j] := List.getElem?_eq_getElem hjg
              have hgj := HE1.out _ _ hjl hGj
              obtain ⟨b', e', hbl', _, _, k2'⟩ := HCG.out j _ hGj
              cases e'
              rw [hgj] at k2'
              clear hGj hgj
              go_wp2_with fail
              go_round
              case rel => exact ⟨j + 1, by omega, by go_num⟩
              case measure => simp [intOf]; omega
            · have tj : decide ((j : Int) < N) = false := decide_eq_false (by omega)
              go_wp2_with fail
              go_ret
              exact ⟨rfl, HB5.out⟩

end Go.Proofs.YtnehofekgnbelaaGreatDoor

/-
  netip.indexByte; ParseAddr of four numbers.
-/
import Derived.Test.YtnehofekgnbelaaPar4
import Derived.Laws.Bits64b
namespace Go.Proofs.Ytnehofekgnbelaa
open Go.RowKit
set_option linter.unusedVariables false
set_option maxRecDepth 100000
set_option maxHeartbeats 1000000

theorem index_none (s : ByteArray) (c : UInt8) (w : World) (hs : s.size ≤ 1000) (hall : ∀ b ∈ bl s, b ≠ c) :
    Calls Try.prog 118 #[.string s, .int .u8 c.toNat] w (fun e w' => e = .returned (.int .i64 (-1)) ∧ w = w') := by
  have HA := Lib.hid hall
  clear hall
  go_enter Try.func118, Try.ntmps118
  go_wp2
  go_loop [5] (fun i => ∃ k : Nat, k ≤ s.size ∧ i = .int .i64 k) (fun i => s.size - (intOf i).toNat)
  case atStart => exact ⟨0, Nat.zero_le _, rfl⟩
  case round =>
    obtain ⟨k, hk, rfl⟩ := hrel
    by_cases hlt : k < s.size
    · have hq : s[k] ≠ c := HA.out _ (mem_take_bl s k hlt)
      have t1 : ((s[k].toNat : Int) == (c.toNat : Int)) = false := by
        rw [beq_eq_false_iff_ne]
        intro h
        exact hq (UInt8.toNat_inj.1 (by omega))
      have HQ := Lib.hid hq
      clear hq
      go_wp2
      go_round
      case rel => exact ⟨k + 1, by omega, by go_num⟩
      case measure => simp [intOf]; omega
    · obtain rfl : k = s.size := by omega
      go_wp2
      go_ret
      exact ⟨rfl, rfl⟩

theorem nz5_old {w w2 : World} {T : TypeId} (hb : Below (w.alloc (.cells nz5 T)).heap.size (w.alloc (.cells nz5 T)) w2) :
    w2.heap[w.heap.size]? = some (.cells nz5 T (0, 0)) ∧ Below w.heap.size w w2 := by
  refine ⟨?_, below_tr ((Below.refl w.heap.size w).alloc (Nat.le_refl _) _) hb⟩
  rw [hb.block w.heap.size (by simp)]
  exact heap_alloc_new w _

theorem parseAddr_four (s : ByteArray) (N : Nat) (w : World) (hq : quadN 3 (bl s) 0 = some N) (hs : s.size ≤ 1000) :
    Calls Try.prog 83 #[.string s] w (ParsedPost w (naddr 0 (281470681743360 + N) false)) := by
  have HP := Lib.hid (fun w => parseIPv4_any s N w hq hs)
  have HQ := Lib.hid (Q4.start hq)
  generalize 281470681743360 + N = lo at HP ⊢
  clear hq
  go_enter Try.func83, Try.ntmps83
  go_wp2_with fail
  go_loop [4] (fun i => ∃ (k : Nat) (c : List UInt8), k ≤ s.size ∧ i = .int .i64 k ∧ Hid (Q4 (bl s) N k 0 c [])) (fun i => s.size - (intOf i).toNat)
  case atStart => exact ⟨0, [], by omega, rfl, HQ.out⟩
  case round =>
    obtain ⟨k, c, hk, rfl, hr⟩ := hrel
    by_cases hlt : k < s.size
    · have hgk := bl_getD s k hlt
      by_cases hd : isDig s[k] = true
      · have hst := hr.out.digit (by rw [bl_length]; exact hlt) (by rw [hgk]; exact hd)
        have hdd : 48 ≤ (s[k].toNat : Int) ∧ (s[k].toNat : Int) ≤ 57 := of_decide_eq_true hd
        have HQ2 := Lib.hid hst.1
        have t1 : ((s[k].toNat : Int) == 46) = false := by rw [beq_eq_false_iff_ne]; omega
        have t2 : ((s[k].toNat : Int) == 58) = false := by rw [beq_eq_false_iff_ne]; omega
        have t3 : ((s[k].toNat : Int) == 37) = false := by rw [beq_eq_false_iff_ne]; omega
        clear hst hdd hd hgk
        go_wp2_with fail
        go_round
        case rel => exact ⟨k + 1, _, by omega, by go_num, HQ2.out⟩
        case measure => simp [intOf]; omega
      · have h46 := hr.out.other (by rw [bl_length]; exact hlt) (by rw [hgk]; simpa using hd)
        rw [hgk] at h46
        have t1 : ((s[k].toNat : Int) == 46) = true := by rw [h46]; rfl
        clear h46 hd hgk
        go_wp2_with fail
        refine (HP.out _).mono ?_
        rintro e w2 ⟨rfl, hb⟩
        obtain ⟨hres, hbw⟩ := nz5_old hb
        obtain ⟨q0, q1, q2, q3, q4, f0, f1, f2, f3, f4⟩ := nz5_facts hres
        have HB := Lib.hid hbw
        clear hb hres hbw
        unfold naddr
        go_wp2_with fail
        exact bodyPost_ret (v := .tuple #[naddr 0 lo false, .nilIface]) (by simp [results, Try.results83, go_sem, naddr, q0, q1, q2, q3, q4]) rfl ⟨rfl, below_set5 HB.out (Nat.le_refl _) _ _ _ _ _⟩
    · exfalso
      have := (hr.out.stop (by rw [bl_length]; omega)).1
      omega

end Go.Proofs.Ytnehofekgnbelaa

/-
  Texts put together: Netw.
-/
import Derived.Test.YtnehofekgnbelaaGreatDoorM4

/-
  laws.network: what stands ahead of the stroke.
-/
namespace Go.Proofs.YtnehofekgnbelaaGreatDoor
open Go.RowKit
set_option linter.unusedVariables false
set_option maxRecDepth 100000

def NetwPost (p : List UInt8) (w : World) (e : Ending) (w' : World) : Prop := ∃ t, e = .returned (.string t) ∧ bl t = p ∧ w = w'
set_option maxHeartbeats 400000 in
theorem network_any (s : ByteArray) (p x : List UInt8) (w : World) (h : bl s = p ++ 47 :: x) (hp : 47 ∉ p) (hs : s.size ≤ 9223372036854775807) :
    Calls Tryz.prog 20 #[.string s] w (NetwPost p w) := by
  have hlen : p.length < s.size := by rw [← bl_length, h]; simp
  have HE := Lib.hid h
  have HP := Lib.hid hp
  clear h hp
  go_enter Tryz.func20, Tryz.ntmps20
  go_wp2
  go_loop [3] (fun i => ∃ k : Nat, k ≤ p.length ∧ i = .int .i64 k) (fun i => s.size - (intOf i).toNat)
  case atStart => exact ⟨0, Nat.zero_le _, rfl⟩
  case round =>
    obtain ⟨k, hk, rfl⟩ := hrel
    have hlt : k < s.size := by omega
    have hsk : s[k] = (p ++ 47 :: x)[k]'(by rw [← HE.out, bl_length]; exact hlt) := by
      rw [← bl_get s k hlt]
      simp only [HE.out]
    by_cases hq : k = p.length
    · have hb : ((s[k].toNat : Int) == 47) = true := by
        rw [hsk]
        subst hq
        simp
      have HK := Lib.hid hq
      clear hq hsk
      go_wp2
      go_ret
      refine ⟨s.extract 0 k, rfl, ?_, rfl⟩
      rw [bl_extract, HE.out, HK.out]
      simp
    · have hb : ((s[k].toNat : Int) == 47) = false := by
        rw [beq_eq_false_iff_ne]
        intro h
        have h1 : s[k] = 47 := UInt8.toNat_inj.1 (by show s[k].toNat = 47; omega)
        rw [hsk, List.getElem_append_left (by omega)] at h1
        exact HP.out (h1 ▸ List.getElem_mem _)
      clear hsk
      go_wp2
      go_round
      case rel => exact ⟨k + 1, by omega, by go_num⟩
      case measure => simp [intOf]; omega

end Go.Proofs.YtnehofekgnbelaaGreatDoor

/-
  net.IP: how an address lies in memory; isZeros, To4, To16, normalizeIP, equal.
-/
import Derived.Test.YtnehofekgnbelaaVal
import Derived.Deep.QuietTactic
import Derived.BigQuiet
namespace Go.Proofs.Ytnehofekgnbelaa
open Go.RowKit
set_option linter.unusedVariables false
set_option maxRecDepth 100000
set_option maxHeartbeats 1000000

def u8v (b : UInt8) : Value := .int .u8 b.toNat
def ipv (bs : List UInt8) : List Value := bs.map u8v
theorem ipv_length (bs : List UInt8) : (ipv bs).length = bs.length := by simp [ipv]
theorem ipv_getD (bs : List UInt8) (i : Nat) (h : i < bs.length) : (ipv bs).getD i undef = .int .u8 (bs.getD i 0).toNat := by
  simp [ipv, u8v, List.getD_eq_getElem?_getD, List.getElem?_eq_getElem h]
theorem ipv_one (bs : List UInt8) : ∀ u ∈ ipv bs, u.oneCell' = true := by
  intro u hu
  simp only [ipv, List.mem_map] at hu
  obtain ⟨s, _, rfl⟩ := hu
  rfl

/-- The slice reads as these bytes (one at least). -/
def IPAt (w : World) (v : Value) (bs : List UInt8) : Prop := SlAt w v (ipv bs) ∧ 0 < bs.length

theorem IPAt.keep {w w' : World} {v : Value} {bs : List UInt8} (h : IPAt w v bs) (hb : Below w.heap.size w w') : IPAt w' v bs := ⟨h.1.keep hb, h.2⟩

theorem IPAt.out {w : World} {v : Value} {bs : List UInt8} (h : IPAt w v bs) :
    ∃ b off cap, v = .slice (some ⟨b, off, none⟩) bs.length cap ∧ b < w.heap.size ∧ bs.length ≤ cap ∧ cap ≤ 9223372036854775807 ∧
      ∀ i, i < bs.length → w.cell? ⟨b, off + i, none⟩ = some (.int .u8 (bs.getD i 0).toNat) := by
  rcases h.1.out with ⟨h0, _⟩ | ⟨b, off, cap, hv, hb, hl, hm, _, hc⟩
  · exfalso
    have := h.2
    have e : bs.length = 0 := by rw [← ipv_length, h0]; rfl
    omega
  · rw [ipv_length] at hv hl hc
    exact ⟨b, off, cap, hv, hb, hl, by unfold maxLen at hm; omega, fun i hi => by rw [hc i hi, ipv_getD bs i hi]⟩

theorem IPAt.mk {w : World} {b off cap : Nat} {bs : List UInt8} (h0 : 0 < bs.length) (hl : bs.length ≤ cap) (hm : cap ≤ 9223372036854775807)
    (hc : ∀ i, i < bs.length → w.cell? ⟨b, off + i, none⟩ = some (.int .u8 (bs.getD i 0).toNat)) : IPAt w (.slice (some ⟨b, off, none⟩) bs.length cap) bs := by
  refine ⟨?_, h0⟩
  have := SlAt.mk (w := w) (b := b) (off := off) (cap := cap) (xs := ipv bs) (by rw [ipv_length]; exact hl) (by unfold maxLen; omega) (fun i hi => by
    rw [ipv_length] at hi
    rw [hc i hi, ipv_getD bs i hi])
  rw [ipv_length] at this
  exact this

theorem IPAt.facts {w : World} {b off n cap : Nat} {bs : List UInt8} (h : IPAt w (.slice (some ⟨b, off, none⟩) n cap) bs) :
    bs.length = n ∧ b < w.heap.size ∧ n ≤ cap ∧ cap ≤ 9223372036854775807 ∧ ∀ i, i < n → w.cell? ⟨b, off + i, none⟩ = some (.int .u8 (bs.getD i 0).toNat) := by
  obtain ⟨b', off', cap', hv, hb, hl, hm, hc⟩ := h.out
  simp only [Value.slice.injEq, Option.some.injEq, Addr.mk.injEq, and_true] at hv
  obtain ⟨⟨rfl, rfl⟩, rfl, rfl⟩ := hv
  exact ⟨rfl, hb, hl, hm, hc⟩

/-- A part of an address, in the same memory. -/
theorem IPAt.part {w : World} {b off n cap : Nat} {bs : List UInt8} (h : IPAt w (.slice (some ⟨b, off, none⟩) n cap) bs) (lo hi : Nat) (hlo : lo < hi) (hhi : hi ≤ bs.length) :
    IPAt w (.slice (some ⟨b, off + lo, none⟩) (hi - lo) (cap - lo)) ((bs.drop lo).take (hi - lo)) := by
  obtain ⟨b', off', cap', hv, hb, hl, hm, hc⟩ := h.out
  simp only [Value.slice.injEq, Option.some.injEq, Addr.mk.injEq, and_true] at hv
  obtain ⟨⟨rfl, rfl⟩, rfl, rfl⟩ := hv
  have hlen : ((bs.drop lo).take (hi - lo)).length = hi - lo := by rw [List.length_take, List.length_drop]; omega
  have := IPAt.mk (w := w) (b := b) (off := off + lo) (cap := cap - lo) (bs := (bs.drop lo).take (hi - lo)) (by omega) (by omega) (by omega) (fun i hi' => by
    rw [hlen] at hi'
    have hcc := hc (lo + i) (by omega)
    rw [Nat.add_assoc, hcc]
    congr 3
    rw [List.getD_eq_getElem?_getD, List.getD_eq_getElem?_getD, List.getElem?_take, if_pos hi', List.getElem?_drop])
  rw [hlen] at this
  exact this

theorem isZeros_at (b off n cap : Nat) (bs : List UInt8) (w : World) (hn : bs.length = n) (hm : n ≤ 9223372036854775807)
    (hc : ∀ i, i < n → w.cell? ⟨b, off + i, none⟩ = some (.int .u8 (bs.getD i 0).toNat)) :
    Calls Try.prog 86 #[.slice (some ⟨b, off, none⟩) n cap] w fun e w' => e = .returned (.bool (bs.all (· == 0))) ∧ w = w' := by
  have HN := Lib.hid hn
  have HC := Lib.hid hc
  clear hn hc
  go_enter Try.func86, Try.ntmps86
  go_wp2
  go_loop [3] (fun i => ∃ k : Nat, k ≤ n ∧ i = .int .i64 k ∧ Hid (∀ j, j < k → bs.getD j 0 = 0)) (fun i => n - (intOf i).toNat)
  case atStart => exact ⟨0, Nat.zero_le _, rfl, fun j hj => by omega⟩
  case round =>
    obtain ⟨k, hk, rfl, hall⟩ := hrel
    by_cases hlt : k < n
    · have hcell := HC.out k hlt
      generalize hx : bs.getD k 0 = x at hcell
      have HX := Lib.hid hx
      clear hx
      by_cases hq : x = 0
      · have t1 : ((x.toNat : Int) != 0) = false := by rw [hq]; rfl
        have HQ := Lib.hid hq
        clear hq
        go_wp2
        go_round
        case rel => exact ⟨k + 1, by omega, by go_num, fun j hj => by
          by_cases hjk : j = k
          · rw [hjk, HX.out]; exact HQ.out
          · exact hall.out j (by omega)⟩
        case measure => simp [intOf]; omega
      · have t1 : ((x.toNat : Int) != 0) = true := by
          rw [bne_iff_ne]
          intro h
          exact hq (UInt8.toNat_inj.1 (by show x.toNat = 0; omega))
        have HQ := Lib.hid hq
        clear hq
        go_wp2
        go_ret
        refine ⟨ret_bool ?_, rfl⟩
        rw [eq_comm, List.all_eq_false]
        have hk' : k < bs.length := by rw [HN.out]; exact hlt
        refine ⟨bs.getD k 0, ?_, by rw [HX.out]; simpa using HQ.out⟩
        rw [List.getD_eq_getElem?_getD, List.getElem?_eq_getElem hk']
        exact List.getElem_mem hk'
    · obtain rfl : k = n := by omega
      go_wp2
      go_ret
      refine ⟨ret_bool ?_, rfl⟩
      rw [eq_comm, List.all_eq_true]
      intro x hx
      obtain ⟨j, hj, rfl⟩ := List.getElem_of_mem hx
      have := hall.out j (by rw [← HN.out]; exact hj)
      rw [List.getD_eq_getElem?_getD, List.getElem?_eq_getElem hj] at this
      simpa using this

theorem to4_four (v : Value) (a b c d : UInt8) (w : World) (h : IPAt w v [a, b, c, d]) :
    Calls Try.prog 68 #[v] w fun e w' => e = .returned v ∧ w = w' := by
  obtain ⟨b, off, cap, rfl, _⟩ := h.out
  clear h
  go_enter Try.func68, Try.ntmps68
  go_wp2_with fail
  go_ret
  exact ⟨rfl, rfl⟩

theorem to4_six (b off cap : Nat) (x y : UInt8) (w : World) (h : IPAt w (.slice (some ⟨b, off, none⟩) 16 cap) (pre6 ++ [x, y])) :
    Calls Try.prog 68 #[.slice (some ⟨b, off, none⟩) 16 cap] w fun e w' => e = .returned (.slice none 0 0) ∧ w = w' := by
  obtain ⟨_, _, hcap, hcm, hc⟩ := h.facts
  have hz := isZeros_at b off 10 cap (pre6.take 10) w rfl (by omega) (fun i hi => by
    rw [hc i (by omega)]
    congr 3
    rw [List.getD_eq_getElem?_getD, List.getD_eq_getElem?_getD, List.getElem?_take, if_pos hi, List.getElem?_append_left (by simp [pre6]; omega)])
  have hz' : Calls Try.prog 86 #[.slice (some ⟨b, off, none⟩) 10 cap] w fun e w' => e = .returned (.bool false) ∧ w = w' := hz
  have HZ := Lib.hid hz'
  clear hc h hz hz'
  go_enter Try.func68, Try.ntmps68
  go_wp2_with fail
  refine HZ.out.mono ?_
  rintro e w' ⟨rfl, rfl⟩
  go_wp2_with fail
  go_ret
  exact ⟨rfl, rfl⟩

theorem to4_mapped (b off cap : Nat) (b0 b1 b2 b3 : UInt8) (w : World) (h : IPAt w (.slice (some ⟨b, off, none⟩) 16 cap) (pre4 ++ [b0, b1, b2, b3])) :
    Calls Try.prog 68 #[.slice (some ⟨b, off, none⟩) 16 cap] w fun e w' => e = .returned (.slice (some ⟨b, off + 12, none⟩) 4 (cap - 12)) ∧ w = w' := by
  obtain ⟨_, _, hcap, hcm, hc⟩ := h.facts
  have hz := isZeros_at b off 10 cap (pre4.take 10) w rfl (by omega) (fun i hi => by
    rw [hc i (by omega)]
    congr 3
    rw [List.getD_eq_getElem?_getD, List.getD_eq_getElem?_getD, List.getElem?_take, if_pos hi, List.getElem?_append_left (by simp [pre4]; omega)])
  have hz' : Calls Try.prog 86 #[.slice (some ⟨b, off, none⟩) 10 cap] w fun e w' => e = .returned (.bool true) ∧ w = w' := hz
  have c10 : w.cell? ⟨b, off + 10, none⟩ = some (.int .u8 255) := hc 10 (by omega)
  have c11 : w.cell? ⟨b, off + 11, none⟩ = some (.int .u8 255) := hc 11 (by omega)
  have HZ := Lib.hid hz'
  clear hc h hz hz'
  go_enter Try.func68, Try.ntmps68
  go_wp2_with fail
  refine HZ.out.mono ?_
  rintro e w' ⟨rfl, rfl⟩
  go_wp2_with fail
  go_ret
  exact ⟨rfl, rfl⟩

end Go.Proofs.Ytnehofekgnbelaa

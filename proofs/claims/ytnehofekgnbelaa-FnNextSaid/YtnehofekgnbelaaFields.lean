/-
  netip.parseIPv4Fields on a text of four numbers.
-/
import Derived.Test.YtnehofekgnbelaaQuad
namespace Go.Proofs.Ytnehofekgnbelaa
open Go.RowKit
set_option linter.unusedVariables false
set_option maxRecDepth 100000
set_option maxHeartbeats 1000000

def f4 (F : List Nat) : Array Value := #[.int .u8 (F.getD 0 0 : Nat), .int .u8 (F.getD 1 0 : Nat), .int .u8 (F.getD 2 0 : Nat), .int .u8 (F.getD 3 0 : Nat)]
/-- The block B holds these numbers, and nothing else is otherwise. -/
structure FldRel (w : World) (B : Nat) (T : TypeId) (F : List Nat) (wr : World) : Prop where
  row : wr.heap[B]? = some (.cells (f4 F) T (0, 0))
  below : ∀ w0 : World, Below w0.heap.size w0 w → w0.heap.size ≤ B → Below w0.heap.size w0 wr
  other : ∀ k, k ≠ B → wr.heap[k]? = w.heap[k]?

theorem FldRel.next {w wr : World} {B : Nat} {T : TypeId} {F : List Nat} (h : FldRel w B T F wr) (hl : F.length ≤ 3) (g : Nat) :
    FldRel w B T (F ++ [g]) (wr.setCell ⟨B, F.length, none⟩ (.int .u8 g)) := by
  refine ⟨?_, fun w0 h0 hB => (h.below w0 h0 hB).setCell hB _, fun k hk => by rw [Below.heap_setCell _ _ _ _ hk]; exact h.other k hk⟩
  rw [heap_setCell_same wr B F.length (f4 F) T _ h.row]
  match F, hl with
  | [], _ => rfl
  | [a], _ => rfl
  | [a, b], _ => rfl
  | [a, b, c], _ => rfl
  | _ :: _ :: _ :: _ :: _, hl => simp at hl

theorem fld_next {w wr : World} {B pos q : Nat} {T : TypeId} {F : List Nat} (h : FldRel w B T F wr) (hl : F.length = pos) (hp : pos ≤ 3) {v : Value} (hv : v = .int .u8 q) :
    FldRel w B T (F ++ [q]) (wr.setCell ⟨B, pos, none⟩ v) := by
  subst hl hv
  exact h.next hp q
def FieldsPost (w : World) (B : Nat) (T : TypeId) (N : Nat) (e : Ending) (w' : World) : Prop :=
  e = .returned .nilIface ∧ ∃ F : List Nat, F.length = 4 ∧ (∀ g ∈ F, g ≤ 255) ∧ N = foldF F ∧ FldRel w B T F w'

theorem bl_getD (s : ByteArray) (k : Nat) (h : k < s.size) : (bl s).getD k 0 = s[k] := by
  rw [List.getD_eq_getElem?_getD, List.getElem?_eq_getElem (by rw [bl_length]; exact h)]
  rfl

theorem fields_any (s : ByteArray) (N B : Nat) (T : TypeId) (w : World) (hq : quadN 3 (bl s) 0 = some N) (hs : s.size ≤ 1000) (hB : w.heap[B]? = some (.cells (f4 []) T (0, 0))) :
    Calls Try.prog 117 #[.string s, .int .i64 0, .int .i64 s.size, .slice (some ⟨B, 0, none⟩) 4 4] w (FieldsPost w B T N) := by
  have hrel0 : FldRel w B T [] w := ⟨hB, fun w0 h0 _ => h0, fun k _ => rfl⟩
  have e0 : s.extract 0 s.size = s := by
    apply ByteArray.ext
    apply Array.toList_inj.1
    have := Lib.extract_data s 0 s.size
    rw [this, List.drop_zero, Nat.sub_zero]
    exact List.take_of_length_le (by simp)
  have H0 := Lib.hid hrel0
  have HQ := Lib.hid (Q4.start hq)
  clear hrel0 hq hB
  go_enter Try.func117, Try.ntmps117
  go_wp2_with fail
  go_loopw [9, 10, 11, 13] (fun v p d i wr => ∃ (k pos m : Nat) (g : Int) (c : List UInt8) (F : List Nat), k ≤ s.size ∧ i = .int .i64 k ∧ p = .int .i64 pos ∧ d = .int .i64 m ∧ v = .int .i64 g ∧ 0 ≤ g ∧ g ≤ 255 ∧ m ≤ k ∧ Hid (m = c.length ∧ g = valL c ∧ Q4 (bl s) N k pos c F ∧ FldRel w B T F wr)) (fun _ _ _ i _ => s.size - (intOf i).toNat)
  case atStart => exact ⟨0, 0, 0, 0, [], [], by omega, rfl, rfl, rfl, rfl, by omega, by omega, by omega, rfl, rfl, HQ.out, H0.out⟩
  case round =>
    obtain ⟨k, pos, m, g, c, F, hk, rfl, rfl, rfl, rfl, hg0, hg1, hmk, hr⟩ := hrel
    by_cases hlt : k < s.size
    · have hgk := bl_getD s k hlt
      have HGK := Lib.hid hgk
      by_cases hd : isDig s[k] = true
      · have hst := hr.out.2.2.1.digit (by rw [bl_length]; exact hlt) (by rw [hgk]; exact hd)
        have hvs := valL_snoc c ((bl s).getD k 0)
        have hgc := hr.out.2.1
        have hle0 := hst.2.1
        rw [hvs, ← hgc, hgk] at hle0
        rw [hgk] at hvs
        have hdd : 48 ≤ (s[k].toNat : Int) ∧ (s[k].toNat : Int) ≤ 57 := of_decide_eq_true hd
        obtain ⟨i1, i2⟩ := hdd
        obtain ⟨hq2, _, hno⟩ := hst
        have hle2 : g * 10 + (s[k].toNat : Int) - 48 ≤ 255 := by omega
        have hge2 : 0 ≤ g * 10 + (s[k].toNat : Int) - 48 := by omega
        have hno2 : ¬ (m = 1 ∧ g = 0) := by rw [hr.out.1, hgc]; exact hno
        have HQ2 := Lib.hid hq2
        have HVS := Lib.hid hvs
        clear hq2 hle0 hno hvs hgk hgc hd
        by_cases hm1 : m = 1
        · have t1 : ((m : Int) == 1) = true := by rw [hm1]; rfl
          have t2 : (g == 0) = false := by rw [beq_eq_false_iff_ne]; exact fun h => hno2 ⟨hm1, h⟩
          clear hno2
          subst hm1
          go_wp2_with fail
          go_roundw
          case rel => exact ⟨k + 1, pos, 2, _, _, F, by omega, by go_num, rfl, by go_num, rfl, hge2, hle2, by omega, by rw [List.length_append, ← hr.out.1]; rfl, by rw [HGK.out, HVS.out, ← hr.out.2.1]; omega, HQ2.out, hr.out.2.2.2⟩
          case measure => simp [intOf]; omega
        · have t1 : ((m : Int) == 1) = false := by rw [beq_eq_false_iff_ne]; omega
          clear hno2
          go_wp2_with fail
          go_roundw
          case rel => exact ⟨k + 1, pos, m + 1, _, _, F, by omega, by go_num, rfl, by go_num, rfl, hge2, hle2, by omega, by rw [List.length_append, ← hr.out.1]; rfl, by rw [HGK.out, HVS.out, ← hr.out.2.1]; omega, HQ2.out, hr.out.2.2.2⟩
          case measure => simp [intOf]; omega
      · have hnd : isDig ((bl s).getD k 0) = false := by rw [hgk]; simpa using hd
        have h46 := hr.out.2.2.1.other (by rw [bl_length]; exact hlt) hnd
        obtain ⟨hp3, hk0, hk1, hpd, hv0, hv1, hq2⟩ := hr.out.2.2.1.point (by rw [bl_length]; exact hlt) h46
        rw [hgk] at h46
        rw [bl_length] at hk1
        have i1 : ¬ 48 ≤ (s[k].toNat : Int) := by rw [h46]; decide
        have t0 : ((s[k].toNat : Int) == 46) = true := by rw [h46]; rfl
        obtain ⟨j, rfl⟩ : ∃ j, k = j + 1 := ⟨k - 1, by omega⟩
        have hj : j < s.size := by omega
        rw [Nat.add_sub_cancel, bl_getD s j hj] at hpd
        have hjd : 48 ≤ (s[j].toNat : Int) ∧ (s[j].toNat : Int) ≤ 57 := of_decide_eq_true hpd
        have t3 : ((s[j].toNat : Int) == 46) = false := by rw [beq_eq_false_iff_ne]; omega
        have t1 : ((j : Int) + 1 == 0) = false := by rw [beq_eq_false_iff_ne]; omega
        have t2 : ((j : Int) + 1 == (s.size : Int) - 1) = false := by rw [beq_eq_false_iff_ne]; omega
        rw [← hr.out.2.1] at hq2 hv0 hv1
        have hlF := hr.out.2.2.1.len
        obtain ⟨q, hgq⟩ : ∃ q : Nat, g = q := ⟨g.toNat, by omega⟩
        have hq5 : q ≤ 255 := by omega
        have HQ2 := Lib.hid hq2
        have HR := Lib.hid hr.out.2.2.2
        have HLF := Lib.hid hlF
        have fr0 : ∀ i, wr.frozen? ⟨B, i, none⟩ = false := fun i => frozen_of_row wr _ i _ _ hr.out.2.2.2.row
        have z0 := fr0 0
        have z1 := fr0 1
        have z2 := fr0 2
        have c0 : wr.cell? ⟨B, 0, none⟩ = some (.int .u8 (F.getD 0 0 : Nat)) := cell_of_row wr _ 0 _ _ _ hr.out.2.2.2.row
        have c1 : wr.cell? ⟨B, 1, none⟩ = some (.int .u8 (F.getD 1 0 : Nat)) := cell_of_row wr _ 1 _ _ _ hr.out.2.2.2.row
        have c2 : wr.cell? ⟨B, 2, none⟩ = some (.int .u8 (F.getD 2 0 : Nat)) := cell_of_row wr _ 2 _ _ _ hr.out.2.2.2.row
        clear hq2 hnd hpd hjd hv0 hv1 h46 hlF fr0 hd hr hgk
        subst hgq
        obtain rfl | rfl | rfl : pos = 0 ∨ pos = 1 ∨ pos = 2 := by omega
        all_goals
          go_wp2_with fail
          go_roundw
          case rel => first
            | exact ⟨j + 1 + 1, 1, 0, 0, [], _, by omega, by go_num, rfl, rfl, rfl, by omega, by omega, by omega, rfl, rfl, HQ2.out, fld_next HR.out HLF.out (by omega) rfl⟩
            | exact ⟨j + 1 + 1, 2, 0, 0, [], _, by omega, by go_num, rfl, rfl, rfl, by omega, by omega, by omega, rfl, rfl, HQ2.out, fld_next HR.out HLF.out (by omega) rfl⟩
            | exact ⟨j + 1 + 1, 3, 0, 0, [], _, by omega, by go_num, rfl, rfl, rfl, by omega, by omega, by omega, rfl, rfl, HQ2.out, fld_next HR.out HLF.out (by omega) rfl⟩
          case measure => simp [intOf]; omega
    · obtain rfl : k = s.size := by omega
      obtain ⟨hp3, hv0, hv1, hN⟩ := hr.out.2.2.1.stop (by rw [bl_length])
      subst hp3
      rw [← hr.out.2.1] at hN hv0 hv1
      have hlF := hr.out.2.2.1.len
      have hsm := hr.out.2.2.1.small
      obtain ⟨q, hgq⟩ : ∃ q : Nat, g = q := ⟨g.toNat, by omega⟩
      have hq5 : q ≤ 255 := by omega
      have z3 : wr.frozen? ⟨B, 3, none⟩ = false := frozen_of_row wr _ 3 _ _ hr.out.2.2.2.row
      have c3 : wr.cell? ⟨B, 3, none⟩ = some (.int .u8 (F.getD 3 0 : Nat)) := cell_of_row wr _ 3 _ _ _ hr.out.2.2.2.row
      have HR := Lib.hid hr.out.2.2.2
      have HLF := Lib.hid hlF
      have HN := Lib.hid hN
      have HSM := Lib.hid hsm
      clear hN hlF hsm hv0 hv1 hr
      subst hgq
      go_wp2_with fail
      go_ret
      refine ⟨rfl, F ++ [q], by simp [HLF.out], ?_, HN.out, fld_next HR.out HLF.out (by omega) rfl⟩
      intro x hx
      rw [List.mem_append, List.mem_singleton] at hx
      rcases hx with hx | rfl
      · exact HSM.out x hx
      · exact hq5

end Go.Proofs.Ytnehofekgnbelaa

/-
  Texts put together: Quad, Fields.
-/
import Derived.Test.YtnehofekgnbelaaGreatDoorM6

/-
  Four numbers with points between: how the text goes by, byte for byte. No program in sight.
-/
namespace Go.Proofs.YtnehofekgnbelaaGreatDoor
open Go.RowKit
set_option linter.unusedVariables false

theorem dig_ne {x : UInt8} (h : isDig x = true) : x ≠ 46 := by
  rintro rfl
  revert h
  decide
theorem cutL_pre (c r : List UInt8) (h : c.all isDig = true) : cutL 46 (c ++ r) = (c ++ (cutL 46 r).1, (cutL 46 r).2.1, (cutL 46 r).2.2) := by
  induction c with
  | nil => rfl
  | cons x c ih =>
    rw [List.all_cons, Bool.and_eq_true] at h
    simp [cutL, dig_ne h.1, ih h.2]

def foldF (F : List Nat) : Nat := F.foldl (fun a g => a * 256 + g) 0
theorem foldF_snoc (F : List Nat) (g : Nat) : foldF (F ++ [g]) = foldF F * 256 + g := by simp [foldF, List.foldl_append]
theorem foldF_lt (F : List Nat) (h : ∀ g ∈ F, g ≤ 255) : foldF F < 256 ^ F.length := by
  have key : ∀ (F : List Nat) (a : Nat), (∀ g ∈ F, g ≤ 255) → F.foldl (fun a g => a * 256 + g) a < (a + 1) * 256 ^ F.length := by
    intro F
    induction F with
    | nil => intro a _; simp
    | cons g F ih =>
      intro a h
      have h1 := h g (by simp)
      have h2 := ih (a * 256 + g) (fun x hx => h x (by simp [hx]))
      rw [List.foldl_cons, List.length_cons, Nat.pow_succ]
      refine Nat.lt_of_lt_of_le h2 ?_
      have : (a * 256 + g + 1) * 256 ^ F.length ≤ ((a + 1) * 256) * 256 ^ F.length := Nat.mul_le_mul_right _ (by omega)
      rw [Nat.mul_comm (256 ^ F.length) 256, ← Nat.mul_assoc]
      exact this
  have := key F 0 h
  unfold foldF
  simpa using this

structure Q4 (l : List UInt8) (N : Nat) (k pos : Nat) (c : List UInt8) (F : List Nat) : Prop where
  split : ∃ P, l.take k = P ++ c
  dig : c.all isDig = true
  goal : quadN (3 - pos) (c ++ l.drop k) (foldF F) = some N
  len : F.length = pos
  le3 : pos ≤ 3
  small : ∀ g ∈ F, g ≤ 255

theorem quad_ok {k n N : Nat} {l : List UInt8} (h : quadN k l n = some N) : numOK 255 (cutL 46 l).1 = true ∧ (cutL 46 l).2.2 = decide (0 < k) ∧
    (if k = 0 then some ((n * 256 + (valL (cutL 46 l).1).toNat) % 4294967296) else quadN (k - 1) (cutL 46 l).2.1 ((n * 256 + (valL (cutL 46 l).1).toNat) % 4294967296)) = some N := by
  rw [quad_step] at h
  by_cases hc : numOK 255 (cutL 46 l).1 = true ∧ (cutL 46 l).2.2 = decide (0 < k)
  · rw [if_pos hc] at h
    have hv : numV 255 (cutL 46 l).1 = valL (cutL 46 l).1 := by unfold numV; rw [hc.1]; rfl
    rw [hv] at h
    exact ⟨hc.1, hc.2, h⟩
  · rw [if_neg hc] at h
    cases h

theorem numOK_dig {l : List UInt8} (h : numOK 255 l = true) : l ≠ [] ∧ l.all isDig = true ∧ ¬ (1 < l.length ∧ l.head? = some 48) ∧ valL l ≤ 255 := by
  unfold numOK at h
  simp only [Bool.and_eq_true, decide_eq_true_eq, Bool.not_eq_true', Bool.and_eq_false_iff, decide_eq_false_iff_not] at h
  obtain ⟨⟨⟨h1, h2⟩, h3⟩, h4⟩ := h
  refine ⟨h1, h2, fun h => ?_, h4⟩
  rcases h3 with h3 | h3
  · exact h3 h.1
  · exact h3 h.2

theorem Q4.drop {l : List UInt8} {N k pos : Nat} {c : List UInt8} {F : List Nat} (h : Q4 l N k pos c F) (hk : k < l.length) : quadN (3 - pos) (c ++ l.getD k 0 :: l.drop (k + 1)) (foldF F) = some N := by
  have := h.goal
  rw [List.drop_eq_getElem_cons hk] at this
  rw [List.getD_eq_getElem?_getD, List.getElem?_eq_getElem hk]
  exact this
theorem take_getD (l : List UInt8) (k : Nat) (hk : k < l.length) : l.take (k + 1) = l.take k ++ [l.getD k 0] := by
  rw [List.take_succ_eq_append_getElem hk, List.getD_eq_getElem?_getD, List.getElem?_eq_getElem hk]
  rfl

theorem Q4.digit {l : List UInt8} {N k pos : Nat} {c : List UInt8} {F : List Nat} (h : Q4 l N k pos c F) (hk : k < l.length) (hx : isDig (l.getD k 0) = true) :
    Q4 l N (k + 1) pos (c ++ [l.getD k 0]) F ∧ valL (c ++ [l.getD k 0]) ≤ 255 ∧ ¬ (c.length = 1 ∧ valL c = 0) := by
  have hg := h.drop hk
  have hd : (c ++ [l.getD k 0]).all isDig = true := by rw [List.all_append, h.dig, Bool.true_and]; simpa using hx
  have hg2 : quadN (3 - pos) ((c ++ [l.getD k 0]) ++ l.drop (k + 1)) (foldF F) = some N := by simpa using hg
  have ho := quad_ok hg2
  rw [cutL_pre _ _ hd] at ho
  obtain ⟨h1, h2, h3, h4⟩ := numOK_dig ho.1
  refine ⟨⟨?_, hd, hg2, h.len, h.le3, h.small⟩, ?_, ?_⟩
  · obtain ⟨P, hP⟩ := h.split
    exact ⟨P, by rw [take_getD l k hk, hP, List.append_assoc]⟩
  · exact Int.le_trans (valL_mono _ _ h2) h4
  · rintro ⟨hl, hv⟩
    obtain ⟨x, rfl⟩ := List.length_eq_one_iff.1 hl
    refine h3 ⟨by simp, ?_⟩
    have : ((x.toNat : Int) - 48) = 0 := by simpa [valL] using hv
    have : x = 48 := UInt8.toNat_inj.1 (by show x.toNat = 48; omega)
    subst this
    rfl

theorem Q4.other {l : List UInt8} {N k pos : Nat} {c : List UInt8} {F : List Nat} (h : Q4 l N k pos c F) (hk : k < l.length) (hx : isDig (l.getD k 0) = false) : l.getD k 0 = 46 := by
  by_cases h46 : l.getD k 0 = 46
  · exact h46
  · exfalso
    have hg := h.drop hk
    have ho := quad_ok hg
    rw [cutL_pre _ _ h.dig] at ho
    obtain ⟨h1, h2, h3, h4⟩ := numOK_dig ho.1
    rw [List.all_append, Bool.and_eq_true] at h2
    have h5 := h2.2
    simp only [cutL, if_neg h46, List.all_cons, hx] at h5
    simp at h5

theorem last_dig (P c : List UInt8) (hc : c ≠ []) (hd : c.all isDig = true) : isDig ((P ++ c).getD ((P ++ c).length - 1) 0) = true := by
  obtain ⟨x, y, rfl⟩ : ∃ x y, c = x ++ [y] := ⟨c.dropLast, c.getLast hc, (List.dropLast_concat_getLast hc).symm⟩
  rw [List.all_append, Bool.and_eq_true] at hd
  have : (P ++ (x ++ [y])).length - 1 = (P ++ x).length := by simp
  rw [this, ← List.append_assoc, List.getD_eq_getElem?_getD, List.getElem?_append_right (Nat.le_refl _)]
  simpa using hd.2

theorem Q4.point {l : List UInt8} {N k pos : Nat} {c : List UInt8} {F : List Nat} (h : Q4 l N k pos c F) (hk : k < l.length) (hx : l.getD k 0 = 46) :
    pos < 3 ∧ 0 < k ∧ k + 1 < l.length ∧ isDig (l.getD (k - 1) 0) = true ∧ 0 ≤ valL c ∧ valL c ≤ 255 ∧ Q4 l N (k + 1) (pos + 1) [] (F ++ [(valL c).toNat]) := by
  have hg := h.drop hk
  rw [hx] at hg
  have ho := quad_ok hg
  rw [cutL_pre _ _ h.dig] at ho
  have e : cutL 46 (46 :: l.drop (k + 1)) = ([], l.drop (k + 1), true) := by simp [cutL]
  rw [e] at ho
  simp only [List.append_nil] at ho
  obtain ⟨o1, o2, o3⟩ := ho
  obtain ⟨h1, h2, h3, h4⟩ := numOK_dig o1
  have hp : pos < 3 := by
    have := of_decide_eq_true o2.symm
    omega
  rw [if_neg (by omega)] at o3
  have hv := valL_nonneg c h2
  have hF := foldF_lt F h.small
  have hF3 : foldF F < 16777216 := by
    refine Nat.lt_of_lt_of_le hF ?_
    rw [h.len]
    calc 256 ^ pos ≤ 256 ^ 3 := Nat.pow_le_pow_right (by decide) (by omega)
      _ = 16777216 := by decide
  have hm : (foldF F * 256 + (valL c).toNat) % 4294967296 = foldF (F ++ [(valL c).toNat]) := by
    rw [foldF_snoc]; omega
  rw [hm] at o3
  obtain ⟨P, hP⟩ := h.split
  have hlen : k = (P ++ c).length := by
    rw [← hP, List.length_take]; omega
  have hc0 : 0 < c.length := List.length_pos_iff.2 h1
  refine ⟨hp, by rw [hlen, List.length_append]; omega, ?_, ?_, hv, h4, ?_⟩
  · have hne := (numOK_dig (quad_ok o3).1).1
    by_cases hr : l.drop (k + 1) = []
    · rw [hr] at hne
      exact absurd rfl hne
    · have := List.length_pos_iff.2 hr
      rw [List.length_drop] at this
      omega
  · have h9 := last_dig P c h1 h2
    have hpos : 0 < (P ++ c).length := by rw [List.length_append]; omega
    rw [← hlen] at h9
    rw [← hP, List.getD_eq_getElem?_getD, List.getElem?_take, if_pos (by omega)] at h9
    rw [List.getD_eq_getElem?_getD]
    exact h9
  · refine ⟨⟨l.take (k + 1), by simp⟩, rfl, ?_, by simp [h.len], by omega, ?_⟩
    · rw [show 3 - (pos + 1) = 3 - pos - 1 from by omega]
      exact o3
    · intro g hg
      rw [List.mem_append, List.mem_singleton] at hg
      rcases hg with hg | rfl
      · exact h.small g hg
      · omega

theorem Q4.stop {l : List UInt8} {N k pos : Nat} {c : List UInt8} {F : List Nat} (h : Q4 l N k pos c F) (hk : k = l.length) :
    pos = 3 ∧ 0 ≤ valL c ∧ valL c ≤ 255 ∧ N = foldF (F ++ [(valL c).toNat]) := by
  have hg := h.goal
  rw [hk, List.drop_length] at hg
  have ho := quad_ok hg
  rw [cutL_pre _ _ h.dig] at ho
  have e : cutL 46 ([] : List UInt8) = ([], [], false) := rfl
  rw [e] at ho
  simp only [List.append_nil] at ho
  obtain ⟨o1, o2, o3⟩ := ho
  obtain ⟨h1, h2, h3, h4⟩ := numOK_dig o1
  have hp : pos = 3 := by
    have := of_decide_eq_false o2.symm
    have := h.le3
    omega
  rw [if_pos (by omega)] at o3
  have hv := valL_nonneg c h2
  have hF := foldF_lt F h.small
  rw [h.len, hp] at hF
  have hF3 : foldF F < 16777216 := hF
  refine ⟨hp, hv, h4, ?_⟩
  rw [foldF_snoc, ← Option.some.inj o3]
  omega

theorem Q4.start {l : List UInt8} {N : Nat} (h : quadN 3 l 0 = some N) : Q4 l N 0 0 [] [] :=
  ⟨⟨[], by simp⟩, rfl, by simpa [foldF] using h, rfl, by omega, fun g hg => by cases hg⟩

end Go.Proofs.YtnehofekgnbelaaGreatDoor

/-
  netip.parseIPv4Fields on a text of four numbers.
-/
namespace Go.Proofs.YtnehofekgnbelaaGreatDoor
open Go.RowKit
set_option linter.unusedVariables false
set_option maxRecDepth 100000
set_option maxHeartbeats 1000000

def f4 (F : List Nat) : Array Value := #[.int .u8 (F.getD 0 0 : Nat), .int .u8 (F.getD 1 0 : Nat), .int .u8 (F.getD 2 0 : Nat), .int .u8 (F.getD 3 0 : Nat)]
/-- The block B holds these numbers, and nothing else is otherwise. -/
structure FldRel (w : World) (B : Nat) (T : TypeId) (F : List Nat) (wr : World) : Prop where
  row : wr.heap[B]? = some (.cells (f4 F) T (0, 0))
  below : ∀ w0 : World, Below w0.heap.size w0 w → w0.heap.size ≤ B → Below w0.heap.size w0 wr
  other : ∀ k, k ≠ B → wr.heap[k]? = w.heap[k]?

theorem FldRel.next {w wr : World} {B : Nat} {T : TypeId} {F : List Nat} (h : FldRel w B T F wr) (hl : F.length ≤ 3) (g : Nat) :
    FldRel w B T (F ++ [g]) (wr.setCell ⟨B, F.length, none⟩ (.int .u8 g)) := by
  refine ⟨?_, fun w0 h0 hB => (h.below w0 h0 hB).setCell hB _, fun k hk => by rw [Below.heap_setCell _ _ _ _ hk]; exact h.other k hk⟩
  rw [heap_setCell_same wr B F.length (f4 F) T _ h.row]
  match F, hl with
  | [], _ => rfl
  | [a], _ => rfl
  | [a, b], _ => rfl
  | [a, b, c], _ => rfl
  | _ :: _ :: _ :: _ :: _, hl => simp at hl

theorem fld_next {w wr : World} {B pos q : Nat} {T : TypeId} {F : List Nat} (h : FldRel w B T F wr) (hl : F.length = pos) (hp : pos ≤ 3) {v : Value} (hv : v = .int .u8 q) :
    FldRel w B T (F ++ [q]) (wr.setCell ⟨B, pos, none⟩ v) := by
  subst hl hv
  exact h.next hp q
def FieldsPost (w : World) (B : Nat) (T : TypeId) (N : Nat) (e : Ending) (w' : World) : Prop :=
  e = .returned .nilIface ∧ ∃ F : List Nat, F.length = 4 ∧ (∀ g ∈ F, g ≤ 255) ∧ N = foldF F ∧ FldRel w B T F w'

theorem bl_getD (s : ByteArray) (k : Nat) (h : k < s.size) : (bl s).getD k 0 = s[k] := by
  rw [List.getD_eq_getElem?_getD, List.getElem?_eq_getElem (by rw [bl_length]; exact h)]
  rfl

theorem fields_any (s : ByteArray) (N B : Nat) (T : TypeId) (w : World) (hq : quadN 3 (bl s) 0 = some N) (hs : s.size ≤ 1000) (hB : w.heap[B]? = some (.cells (f4 []) T (0, 0))) :
    Calls Tryz.prog 181 #[.string s, .int .i64 0, .int .i64 s.size, .slice (some ⟨B, 0, none⟩) 4 4] w (FieldsPost w B T N) := by
  have hrel0 : FldRel w B T [] w := ⟨hB, fun w0 h0 _ => h0, fun k _ => rfl⟩
  have e0 : s.extract 0 s.size = s := by
    apply ByteArray.ext
    apply Array.toList_inj.1
    have := Lib.extract_data s 0 s.size
    rw [this, List.drop_zero, Nat.sub_zero]
    exact List.take_of_length_le (by simp)
  have H0 := Lib.hid hrel0
  have HQ := Lib.hid (Q4.start hq)
  clear hrel0 hq hB
  go_enter Tryz.func181, Tryz.ntmps181
  go_wp2_with fail
  go_loopw [9, 10, 11, 13] (fun v p d i wr => ∃ (k pos m : Nat) (g : Int) (c : List UInt8) (F : List Nat), k ≤ s.size ∧ i = .int .i64 k ∧ p = .int .i64 pos ∧ d = .int .i64 m ∧ v = .int .i64 g ∧ 0 ≤ g ∧ g ≤ 255 ∧ m ≤ k ∧ Hid (m = c.length ∧ g = valL c ∧ Q4 (bl s) N k pos c F ∧ FldRel w B T F wr)) (fun _ _ _ i _ => s.size - (intOf i).toNat)
  case atStart => exact ⟨0, 0, 0, 0, [], [], by omega, rfl, rfl, rfl, rfl, by omega, by omega, by omega, rfl, rfl, HQ.out, H0.out⟩
  case round =>
    obtain ⟨k, pos, m, g, c, F, hk, rfl, rfl, rfl, rfl, hg0, hg1, hmk, hr⟩ := hrel
    by_cases hlt : k < s.size
    · have hgk := bl_getD s k hlt
      have HGK := Lib.hid hgk
      by_cases hd : isDig s[k] = true
      · have hst := hr.out.2.2.1.digit (by rw [bl_length]; exact hlt) (by rw [hgk]; exact hd)
        have hvs := valL_snoc c ((bl s).getD k 0)
        have hgc := hr.out.2.1
        have hle0 := hst.2.1
        rw [hvs, ← hgc, hgk] at hle0
        rw [hgk] at hvs
        have hdd : 48 ≤ (s[k].toNat : Int) ∧ (s[k].toNat : Int) ≤ 57 := of_decide_eq_true hd
        obtain ⟨i1, i2⟩ := hdd
        obtain ⟨hq2, _, hno⟩ := hst
        have hle2 : g * 10 + (s[k].toNat : Int) - 48 ≤ 255 := by omega
        have hge2 : 0 ≤ g * 10 + (s[k].toNat : Int) - 48 := by omega
        have hno2 : ¬ (m = 1 ∧ g = 0) := by rw [hr.out.1, hgc]; exact hno
        have HQ2 := Lib.hid hq2
        have HVS := Lib.hid hvs
        clear hq2 hle0 hno hvs hgk hgc hd
        by_cases hm1 : m = 1
        · have t1 : ((m : Int) == 1) = true := by rw [hm1]; rfl
          have t2 : (g == 0) = false := by rw [beq_eq_false_iff_ne]; exact fun h => hno2 ⟨hm1, h⟩
          clear hno2
          subst hm1
          go_wp2_with fail
          go_roundw
          case rel => exact ⟨k + 1, pos, 2, _, _, F, by omega, by go_num, rfl, by go_num, rfl, hge2, hle2, by omega, by rw [List.length_append, ← hr.out.1]; rfl, by rw [HGK.out, HVS.out, ← hr.out.2.1]; omega, HQ2.out, hr.out.2.2.2⟩
          case measure => simp [intOf]; omega
        · have t1 : ((m : Int) == 1) = false := by rw [beq_eq_false_iff_ne]; omega
          clear hno2
          go_wp2_with fail
          go_roundw
          case rel => exact ⟨k + 1, pos, m + 1, _, _, F, by omega, by go_num, rfl, by go_num, rfl, hge2, hle2, by omega, by rw [List.length_append, ← hr.out.1]; rfl, by rw [HGK.out, HVS.out, ← hr.out.2.1]; omega, HQ2.out, hr.out.2.2.2⟩
          case measure => simp [intOf]; omega
      · have hnd : isDig ((bl s).getD k 0) = false := by rw [hgk]; simpa using hd
        have h46 := hr.out.2.2.1.other (by rw [bl_length]; exact hlt) hnd
        obtain ⟨hp3, hk0, hk1, hpd, hv0, hv1, hq2⟩ := hr.out.2.2.1.point (by rw [bl_length]; exact hlt) h46
        rw [hgk] at h46
        rw [bl_length] at hk1
        have i1 : ¬ 48 ≤ (s[k].toNat : Int) := by rw [h46]; decide
        have t0 : ((s[k].toNat : Int) == 46) = true := by rw [h46]; rfl
        obtain ⟨j, rfl⟩ : ∃ j, k = j + 1 := ⟨k - 1, by omega⟩
        have hj : j < s.size := by omega
        rw [Nat.add_sub_cancel, bl_getD s j hj] at hpd
        have hjd : 48 ≤ (s[j].toNat : Int) ∧ (s[j].toNat : Int) ≤ 57 := of_decide_eq_true hpd
        have t3 : ((s[j].toNat : Int) == 46) = false := by rw [beq_eq_false_iff_ne]; omega
        have t1 : ((j : Int) + 1 == 0) = false := by rw [beq_eq_false_iff_ne]; omega
        have t2 : ((j : Int) + 1 == (s.size : Int) - 1) = false := by rw [beq_eq_false_iff_ne]; omega
        rw [← hr.out.2.1] at hq2 hv0 hv1
        have hlF := hr.out.2.2.1.len
        obtain ⟨q, hgq⟩ : ∃ q : Nat, g = q := ⟨g.toNat, by omega⟩
        have hq5 : q ≤ 255 := by omega
        have HQ2 := Lib.hid hq2
        have HR := Lib.hid hr.out.2.2.2
        have HLF := Lib.hid hlF
        have fr0 : ∀ i, wr.frozen? ⟨B, i, none⟩ = false := fun i => frozen_of_row wr _ i _ _ hr.out.2.2.2.row
        have z0 := fr0 0
        have z1 := fr0 1
        have z2 := fr0 2
        have c0 : wr.cell? ⟨B, 0, none⟩ = some (.int .u8 (F.getD 0 0 : Nat)) := cell_of_row wr _ 0 _ _ _ hr.out.2.2.2.row
        have c1 : wr.cell? ⟨B, 1, none⟩ = some (.int .u8 (F.getD 1 0 : Nat)) := cell_of_row wr _ 1 _ _ _ hr.out.2.2.2.row
        have c2 : wr.cell? ⟨B, 2, none⟩ = some (.int .u8 (F.getD 2 0 : Nat)) := cell_of_row wr _ 2 _ _ _ hr.out.2.2.2.row
        clear hq2 hnd hpd hjd hv0 hv1 h46 hlF fr0 hd hr hgk
        subst hgq
        obtain rfl | rfl | rfl : pos = 0 ∨ pos = 1 ∨ pos = 2 := by omega
        all_goals
          go_wp2_with fail
          go_roundw
          case rel => first
            | exact ⟨j + 1 + 1, 1, 0, 0, [], _, by omega, by go_num, rfl, rfl, rfl, by omega, by omega, by omega, rfl, rfl, HQ2.out, fld_next HR.out HLF.out (by omega) rfl⟩
            | exact ⟨j + 1 + 1, 2, 0, 0, [], _, by omega, by go_num, rfl, rfl, rfl, by omega, by omega, by omega, rfl, rfl, HQ2.out, fld_next HR.out HLF.out (by omega) rfl⟩
            | exact ⟨j + 1 + 1, 3, 0, 0, [], _, by omega, by go_num, rfl, rfl, rfl, by omega, by omega, by omega, rfl, rfl, HQ2.out, fld_next HR.out HLF.out (by omega) rfl⟩
          case measure => simp [intOf]; omega
    · obtain rfl : k = s.size := by omega
      obtain ⟨hp3, hv0, hv1, hN⟩ := hr.out.2.2.1.stop (by rw [bl_length])
      subst hp3
      rw [← hr.out.2.1] at hN hv0 hv1
      have hlF := hr.out.2.2.1.len
      have hsm := hr.out.2.2.1.small
      obtain ⟨q, hgq⟩ : ∃ q : Nat, g = q := ⟨g.toNat, by omega⟩
      have hq5 : q ≤ 255 := by omega
      have z3 : wr.frozen? ⟨B, 3, none⟩ = false := frozen_of_row wr _ 3 _ _ hr.out.2.2.2.row
      have c3 : wr.cell? ⟨B, 3, none⟩ = some (.int .u8 (F.getD 3 0 : Nat)) := cell_of_row wr _ 3 _ _ _ hr.out.2.2.2.row
      have HR := Lib.hid hr.out.2.2.2
      have HLF := Lib.hid hlF
      have HN := Lib.hid hN
      have HSM := Lib.hid hsm
      clear hN hlF hsm hv0 hv1 hr
      subst hgq
      go_wp2_with fail
      go_ret
      refine ⟨rfl, F ++ [q], by simp [HLF.out], ?_, HN.out, fld_next HR.out HLF.out (by omega) rfl⟩
      intro x hx
      rw [List.mem_append, List.mem_singleton] at hx
      rcases hx with hx | rfl
      · exact HSM.out x hx
      · exact hq5

end Go.Proofs.YtnehofekgnbelaaGreatDoor

/-
  cniversion.split: the parts of a text between points.
-/
import Derived.Test.YtjoemgniakcjlaaDoorNum
import Derived.Test.YtjoemgniakcjlaaDoorShort
namespace Go.Proofs.YtjoemgniakcjlaaDoor
open Go.RowKit
set_option linter.unusedVariables false

def splitA (acc : List UInt8) : List UInt8 → List (List UInt8)
  | [] => [acc]
  | b :: r => if b = 46 then acc :: splitA [] r else splitA (acc ++ [b]) r
def splitL (l : List UInt8) : List (List UInt8) := splitA [] l

theorem splitA_cut (l acc : List UInt8) : splitA acc l = if (cutL 46 l).2.2 then (acc ++ (cutL 46 l).1) :: splitA [] (cutL 46 l).2.1 else [acc ++ (cutL 46 l).1] := by
  induction l generalizing acc with
  | nil => simp [splitA, cutL]
  | cons b r ih =>
    by_cases hb : b = 46
    · simp [splitA, cutL, hb]
    · simp [splitA, cutL, hb, ih, List.append_assoc]

theorem splitA_length (l acc : List UInt8) : 0 < (splitA acc l).length := by
  induction l generalizing acc with
  | nil => simp [splitA]
  | cons b r ih =>
    by_cases hb : b = 46
    · simp [splitA, hb]
    · simp only [splitA, if_neg hb]; exact ih _

theorem splitA_le (l acc : List UInt8) : (splitA acc l).length ≤ l.length + 1 := by
  induction l generalizing acc with
  | nil => simp [splitA]
  | cons b r ih =>
    by_cases hb : b = 46
    · have := ih []
      simp [splitA, hb]; omega
    · have := ih (acc ++ [b])
      simp only [splitA, if_neg hb, List.length_cons]; omega

/-- A part of a text: from 'f' to 'k'. -/
def seg (s : ByteArray) (f k : Nat) : List UInt8 := ((bl s).drop f).take (k - f)
theorem seg_snoc (s : ByteArray) (f k : Nat) (hf : f ≤ k) (hk : k < s.size) : seg s f (k + 1) = seg s f k ++ [s[k]] := by
  unfold seg
  rw [show k + 1 - f = (k - f) + 1 from by omega, List.take_succ_eq_append_getElem (by rw [List.length_drop, bl_length]; omega)]
  congr 2
  rw [List.getElem_drop]
  have : f + (k - f) = k := by omega
  simp only [this]
  rfl
theorem seg_self (s : ByteArray) (k : Nat) : seg s k k = [] := by simp [seg]

def SplitPost (l : List UInt8) (w : World) (e : Ending) (w' : World) : Prop :=
  ∃ v ss, e = .returned v ∧ SlAt w' v (strVals ss) ∧ ss.map bl = splitL l ∧ (∀ s ∈ ss, s.size ≤ l.length) ∧ Below w.heap.size w w'

def SplitRel (s : ByteArray) (w : World) (k f : Nat) (v : Value) (wr : World) : Prop :=
  ∃ D : List ByteArray, wr.ownsRow w.heap.size 9 1 v D.length (strVals D) ∧ D.length ≤ k ∧ splitL (bl s) = D.map bl ++ splitA (seg s f k) ((bl s).drop k) ∧ (∀ x ∈ D, x.size ≤ (bl s).length) ∧ Below w.heap.size w wr

theorem info9 : (Tryd.prog.info? 9).map (fun i => (i.zero, i.size, i.bytes)) = some (some (.string ByteArray.empty), 1, 16) := by kernel_rfl

theorem strVals_one : ∀ (ss : List ByteArray), ∀ u ∈ strVals ss, u.oneCell' = true := by
  intro ss u hu
  simp only [strVals, List.mem_map] at hu
  obtain ⟨s, _, rfl⟩ := hu
  rfl

theorem size_extract (s : ByteArray) (a b : Nat) : (s.extract a b).size ≤ (bl s).length := by
  rw [← bl_length, bl_extract, List.length_take, List.length_drop]
  omega

theorem rel_point {s : ByteArray} {w wr w' : World} {k fr : Nat} {v v' : Value} {o : Obj} {D : List ByteArray} (hk : k < s.size) (hfr : fr ≤ k) (hq : s[k] = 46)
    (hown : wr.ownsRow w.heap.size 9 1 v D.length (strVals D)) (hD : D.length ≤ k) (hsp : splitL (bl s) = D.map bl ++ splitA (seg s fr k) ((bl s).drop k)) (hsz : ∀ x ∈ D, x.size ≤ (bl s).length)
    (hb : Below w.heap.size w wr) (hown' : w'.ownsRow w.heap.size 9 1 v' (D.length + (strVals [s.extract fr k]).length) (strVals D ++ strVals [s.extract fr k])) (hg : (wr.alloc o).grownBy w' v.ownBlock) :
    SplitRel s w (k + 1) (k + 1) v' w' := by
  refine ⟨D ++ [s.extract fr k], ?_, by simp; omega, ?_, ?_, ?_⟩
  · have e1 : (D ++ [s.extract fr k]).length = D.length + (strVals [s.extract fr k]).length := by simp [strVals]
    have e2 : strVals (D ++ [s.extract fr k]) = strVals D ++ strVals [s.extract fr k] := by simp [strVals]
    rw [e1, e2]
    exact hown'
  · rw [hsp, bl_drop s k hk, seg_self]
    simp only [splitA, hq, if_true, List.map_append, List.map_cons, List.map_nil, List.append_assoc, List.singleton_append]
    rw [bl_extract]
    rfl
  · intro x hx
    rw [List.mem_append, List.mem_singleton] at hx
    rcases hx with hx | rfl
    · exact hsz x hx
    · exact size_extract s fr k
  · refine (hb.alloc hb.size o).grown hg (by have := hb.size; simp; omega) fun b hbk => ?_
    exact (hown.lt b hbk).1

theorem rel_other {s : ByteArray} {w wr : World} {k fr : Nat} {v : Value} (hk : k < s.size) (hfr : fr ≤ k) (hq : s[k] ≠ 46) (h : SplitRel s w k fr v wr) : SplitRel s w (k + 1) fr v wr := by
  obtain ⟨D, hown, hD, hsp, hsz, hb⟩ := h
  refine ⟨D, hown, by omega, ?_, hsz, hb⟩
  rw [hsp, bl_drop s k hk, seg_snoc s fr k hfr hk]
  simp only [splitA, if_neg hq]

theorem rel_end {s : ByteArray} {w wr w' : World} {fr : Nat} {v v' : Value} {o : Obj} {D : List ByteArray} (hfr : fr ≤ s.size)
    (hown : wr.ownsRow w.heap.size 9 1 v D.length (strVals D)) (hsp : splitL (bl s) = D.map bl ++ splitA (seg s fr s.size) ((bl s).drop s.size)) (hsz : ∀ x ∈ D, x.size ≤ (bl s).length)
    (hb : Below w.heap.size w wr) (hown' : w'.ownsRow w.heap.size 9 1 v' (D.length + (strVals [s.extract fr s.size]).length) (strVals D ++ strVals [s.extract fr s.size])) (hg : (wr.alloc o).grownBy w' v.ownBlock) :
    SplitPost (bl s) w (.returned v') w' := by
  refine ⟨v', D ++ [s.extract fr s.size], rfl, ?_, ?_, ?_, ?_⟩
  · have e2 : strVals (D ++ [s.extract fr s.size]) = strVals D ++ strVals [s.extract fr s.size] := by simp [strVals]
    rw [e2]
    exact SlAt.of_owns hown'
  · have hnil : (bl s).drop s.size = [] := List.drop_of_length_le (by rw [bl_length]; exact Nat.le_refl _)
    rw [hsp, hnil]
    simp only [splitA, List.map_append, List.map_cons, List.map_nil]
    rw [bl_extract]
    rfl
  · intro x hx
    rw [List.mem_append, List.mem_singleton] at hx
    rcases hx with hx | rfl
    · exact hsz x hx
    · exact size_extract s fr s.size
  · refine (hb.alloc hb.size o).grown hg (by have := hb.size; simp; omega) fun b hbk => ?_
    exact (hown.lt b hbk).1

set_option maxHeartbeats 1000000 in
set_option maxRecDepth 100000 in
theorem split_any (s : ByteArray) (w : World) (hs : s.size ≤ 1000) :
    Calls Tryd.prog 24 #[.string s] w (SplitPost (bl s) w) := by
  obtain ⟨i0, hi, hz0, hz1, hz2⟩ := info_parts info9
  have HI := Lib.hid hi
  clear hi
  go_enter Tryd.func24, Tryd.ntmps24
  go_wp2
  go_loopw [3, 4, 5] (fun v f i wr => ∃ k fr : Nat, k ≤ s.size ∧ fr ≤ k ∧ i = .int .i64 k ∧ f = .int .i64 fr ∧ SplitRel s w k fr v wr) (fun _ _ i _ => s.size - (intOf i).toNat)
  case atStart =>
    refine ⟨0, 0, Nat.zero_le _, Nat.zero_le _, rfl, rfl, [], World.ownsRow_made (base := w.heap.size) (e := 9) (size := 1) w #[] 0 (Nat.le_refl _) (Nat.zero_le _) rfl, Nat.le_refl _, ?_, (fun x hx => by cases hx), (Below.refl _ _).alloc (Nat.le_refl _) _⟩
    simp [splitL, seg]
  case round =>
    obtain ⟨k, fr, hk, hfr, rfl, rfl, D, hown, hD, hsp, hsz, hb⟩ := hrel
    have HO := Lib.hid hown
    have HS := Lib.hid hsp
    have HZ := Lib.hid hsz
    have HB := Lib.hid hb
    clear hown hsp hsz hb
    by_cases hlt : k < s.size
    · by_cases hq : s[k] = 46
      · have t1 : ((s[k].toNat : Int) == 46) = true := by rw [hq]; rfl
        have HQ := Lib.hid hq
        clear hq
        go_wp2_with (at_builtin; go_must (refine wpList_append_sl _ rfl _ _ 32 rfl w.heap.size 9 i0 (.string ByteArray.empty) 16 Tryd.underlying32 HI.out hz0 hz1 hz2 rfl u3 D.length (strVals D) rfl (HO.out.alloc _) _ (strVals [s.extract fr k]) rfl (slat_one _ _) (strVals_one _) ?_ ?_ ?_ ?_; (focus (rw [strVals_length]; unfold maxLen; simp; omega)); (focus (rw [strVals_length]; simp; omega)); (focus (have := HB.out.size; simp; omega)); intro v' w' hown' hg _))
        go_roundw
        case rel => exact ⟨k + 1, k + 1, by omega, by omega, by go_num, by go_num, rel_point hlt hfr HQ.out HO.out hD HS.out HZ.out HB.out hown' hg⟩
        case measure => simp [intOf]; omega
      · have t1 : ((s[k].toNat : Int) == 46) = false := by
          rw [beq_eq_false_iff_ne]
          intro h
          exact hq (UInt8.toNat_inj.1 (by show s[k].toNat = 46; omega))
        have HQ := Lib.hid hq
        clear hq
        go_wp2
        go_roundw
        case rel => exact ⟨k + 1, fr, by omega, by omega, by go_num, rfl, rel_other hlt hfr HQ.out ⟨D, HO.out, hD, HS.out, HZ.out, HB.out⟩⟩
        case measure => simp [intOf]; omega
    · obtain rfl : k = s.size := by omega
      go_wp2_with (at_builtin; go_must (refine wpList_append_sl _ rfl _ _ 32 rfl w.heap.size 9 i0 (.string ByteArray.empty) 16 Tryd.underlying32 HI.out hz0 hz1 hz2 rfl u3 D.length (strVals D) rfl (HO.out.alloc _) _ (strVals [s.extract fr s.size]) rfl (slat_one _ _) (strVals_one _) ?_ ?_ ?_ ?_; (focus (rw [strVals_length]; unfold maxLen; simp; omega)); (focus (rw [strVals_length]; simp; omega)); (focus (have := HB.out.size; simp; omega)); intro v' w' hown' hg _))
      go_ret
      exact rel_end hfr HO.out HS.out HZ.out HB.out hown' hg

end Go.Proofs.YtjoemgniakcjlaaDoor

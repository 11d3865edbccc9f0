/-
  Plugins' versions: slices.Clone, PluginSupports, All, VersionsStartingFrom.
-/
import Derived.Test.YtjoemgniakcjlaaDoorShort
import Derived.Test.YtjoemgniakcjlaaDoorSplit
namespace Go.Proofs.YtjoemgniakcjlaaDoor
open Go.RowKit
set_option linter.unusedVariables false

/- slices.Clone of texts -/
def ClonePost (w : World) (xs : List Value) (e : Ending) (w' : World) : Prop := ∃ v', e = .returned v' ∧ SlAt w' v' xs ∧ Below w.heap.size w w'

theorem info9c : (Tryd.prog.info? 9).map (fun i => (i.zero, i.size, i.bytes)) = some (some (.string ByteArray.empty), 1, 16) := by kernel_rfl

set_option maxHeartbeats 400000 in
theorem clone_nil (w : World) :
    Calls Tryd.prog 20 #[.slice none 0 0] w fun e w' => e = .returned (.slice none 0 0) ∧ w = w' := by
  have hnil := fun w a n c => Lib.run_eql_slice_nil (P := Tryd.prog) w 32 9 a n c 0 0 Tryd.underlying32
  go_enter Tryd.func20, Tryd.ntmps20
  go_wp2
  go_ret
  exact ⟨rfl, rfl⟩

set_option maxHeartbeats 400000 in
theorem clone_some (a : Addr) (n cap : Nat) (xs : List Value) (w : World) (hn : xs.length = n) (hm : n ≤ 1000000) (h : SlAt w (.slice (some a) n cap) xs) (h1 : ∀ u ∈ xs, u.oneCell' = true) :
    Calls Tryd.prog 20 #[.slice (some a) n cap] w (ClonePost w xs) := by
  have hnil := fun w a n c => Lib.run_eql_slice_nil (P := Tryd.prog) w 32 9 a n c 0 0 Tryd.underlying32
  obtain ⟨i0, hi, hz0, hz1, hz2⟩ := info_parts info9c
  have H := Lib.hid h
  have HN := Lib.hid hn
  have H1 := Lib.hid h1
  clear h hn h1
  have hown := World.ownsRow_made (base := w.heap.size) (e := 9) (size := 1) w #[] 0 (Nat.le_refl _) (Nat.zero_le _) rfl
  have HO := Lib.hid hown
  have HI := Lib.hid hi
  clear hown hi
  go_enter Tryd.func20, Tryd.ntmps20
  go_wp2_with (at_builtin; go_must (refine wpList_append_sl _ rfl _ _ 32 rfl w.heap.size 9 i0 (.string ByteArray.empty) 16 Tryd.underlying32 HI.out hz0 hz1 hz2 rfl (.slice (some ⟨w.heap.size, 0, none⟩) 0 0) 0 [] rfl HO.out _ xs rfl (H.out.keep ((Below.refl _ _).alloc (Nat.le_refl _) _)) H1.out ?_ ?_ ?_ ?_; (focus (have := HN.out; unfold maxLen; omega)); (focus (have := HN.out; omega)); (focus simp); intro v' w' hown' hg _))
  go_ret
  exact ⟨_, rfl, SlAt.of_owns hown', ((Below.refl _ _).alloc (Nat.le_refl _) _).grown hg (by simp) (by simp [Value.ownBlock])⟩

theorem clone_any (v : Value) (ss : List ByteArray) (w : World) (hn : ss.length ≤ 1000000) (h : SlAt w v (strVals ss)) :
    Calls Tryd.prog 20 #[v] w (ClonePost w (strVals ss)) := by
  have h' := h
  obtain ⟨ao, cap, rfl, hl, hm, hno, hc⟩ := h
  cases ao with
  | none =>
    obtain ⟨h0, rfl⟩ := hno rfl
    rw [h0] at h' ⊢
    exact (clone_nil w).mono fun e w' ⟨he, hw⟩ => ⟨_, he, by rw [← hw]; exact h', by rw [← hw]; exact Below.refl _ _⟩
  | some a =>
    refine clone_some a _ cap _ w rfl (by rw [strVals_length]; exact hn) h' fun u hu => ?_
    simp only [strVals, List.mem_map] at hu
    obtain ⟨s, _, rfl⟩ := hu
    rfl

/-- A plugin's versions behind the interface value. -/
def PlugAt (w : World) (v : Value) (xs : List Value) : Prop :=
  ∃ b sv, v = .iface 65 (.pointer (some ⟨b, 0, none⟩)) ∧ w.cell? ⟨b, 1, none⟩ = some sv ∧ SlAt w sv xs
def PlugPost (w : World) (xs : List Value) (e : Ending) (w' : World) : Prop := ∃ v', e = .returned v' ∧ PlugAt w' v' xs ∧ Below w.heap.size w w'

set_option maxHeartbeats 400000 in
theorem plug_any (ao : Option Addr) (n cap : Nat) (xs : List Value) (w : World) (h0 : 0 < n) (hm : n ≤ 9223372036854775807) (h : SlAt w (.slice ao n cap) xs) :
    Calls Tryd.prog 29 #[.slice ao n cap] w (PlugPost w xs) := by
  have H := Lib.hid h
  clear h
  go_enter Tryd.func29, Tryd.ntmps29
  go_wp2
  go_ret
  refine ⟨_, rfl, ⟨w.heap.size, .slice ao n cap, rfl, by simp [go_sem], H.out.keep ?_⟩, ?_⟩
  all_goals go_grown


/-- What PluginSupports panics with. -/
def plugText : Value := .string ⟨#[112, 114, 111, 103, 114, 97, 109, 109, 101, 114, 32, 101, 114, 114, 111, 114, 58, 32, 121, 111, 117, 32, 109, 117, 115, 116, 32, 115, 117, 112, 112, 111, 114, 116, 32, 97, 116, 32, 108, 101, 97, 115, 116, 32, 111, 110, 101, 32, 118, 101, 114, 115, 105, 111, 110]⟩
def PanicPost (w : World) (e : Ending) (w' : World) : Prop := e = .panicked [{ v := .iface 9 plugText, recovered := false }] ∧ Below w.heap.size w w'

set_option maxHeartbeats 400000 in
theorem plug_panic (ao : Option Addr) (cap : Nat) (w : World) :
    Calls Tryd.prog 29 #[.slice ao 0 cap] w (PanicPost w) := by
  go_enter Tryd.func29, Tryd.ntmps29
  go_wp2
  exact ⟨rfl, rfl, Below.refl _ _⟩

def V0 : ByteArray := ⟨#[48, 46, 49, 46, 48]⟩
def V1 : ByteArray := ⟨#[48, 46, 50, 46, 48]⟩
def V2 : ByteArray := ⟨#[48, 46, 51, 46, 48]⟩
def V3 : ByteArray := ⟨#[48, 46, 51, 46, 49]⟩
def V4 : ByteArray := ⟨#[48, 46, 52, 46, 48]⟩
def V5 : ByteArray := ⟨#[49, 46, 48, 46, 48]⟩
def V6 : ByteArray := ⟨#[49, 46, 49, 46, 48]⟩
def VERS : List ByteArray := [V0, V1, V2, V3, V4, V5, V6]

set_option maxHeartbeats 400000 in
theorem all_any (w : World) :
    Calls Tryd.prog 28 #[] w (PlugPost w (strVals VERS)) := by
  go_enter Tryd.func28, Tryd.ntmps28
  go_wp2_with fail
  refine (plug_any _ _ _ (strVals VERS) _ (by decide) (by decide) ?_).mono ?_
  · exact SlAt.mk (xs := strVals VERS) (by decide) (by decide) fun i hi => by
      have : i < 7 := hi
      have h7 : i = 0 ∨ i = 1 ∨ i = 2 ∨ i = 3 ∨ i = 4 ∨ i = 5 ∨ i = 6 := by omega
      rcases h7 with rfl | rfl | rfl | rfl | rfl | rfl | rfl <;> simp [strVals, VERS, go_sem, V0, V1, V2, V3, V4, V5, V6]
  · rintro e w1 ⟨v, rfl, hp, hb⟩
    have HP := Lib.hid hp
    clear hp
    go_wp2_with fail
    go_ret
    exact ⟨_, rfl, HP.out, below_tr ((Below.refl _ _).alloc (Nat.le_refl _) _) hb⟩

set_option maxHeartbeats 400000 in
theorem told_any (b : Nat) (sv : Value) (w : World) (hc : w.cell? ⟨b, 1, none⟩ = some sv) :
    Calls Tryd.prog 73 #[.pointer (some ⟨b, 0, none⟩)] w fun e w' => e = .returned sv ∧ w = w' := by
  go_enter Tryd.func73, Tryd.ntmps73
  go_wp2
  go_ret
  exact ⟨rfl, rfl⟩

/-- The versions from one on. -/
def fromA (m : ByteArray) : Bool → List ByteArray → List ByteArray
  | _, [] => []
  | ok, v :: r => if (ok || (v.toList == m.toList)) = true then v :: fromA m true r else fromA m false r

theorem fromA_le (m : ByteArray) : ∀ (ok : Bool) (l : List ByteArray), (fromA m ok l).length ≤ l.length
  | _, [] => Nat.le_refl _
  | ok, v :: r => by
    unfold fromA
    split
    · have := fromA_le m true r; simp; omega
    · have := fromA_le m false r; simp; omega

/-- What has been collected ('out' lies in another block than the versions, which stand as they stood in w1). -/
structure FromRel (m : ByteArray) (w w1 : World) (b' k : Nat) (ok : Bool) (v : Value) (D : List ByteArray) (wr : World) : Prop where
  own : wr.ownsRow w.heap.size 9 1 v D.length (strVals D)
  len : D.length ≤ k
  res : fromA m false VERS = D ++ fromA m ok (VERS.drop k)
  below : Below w.heap.size w wr
  ne : v.ownBlock ≠ some b'
  keep : wr.heap[b']? = w1.heap[b']?
  lt : b' < wr.heap.size

theorem FromRel.yes {m : ByteArray} {w w1 wr w' : World} {b' k : Nat} {ok : Bool} {v v' : Value} {x : ByteArray} {o : Obj} {D : List ByteArray} (h : FromRel m w w1 b' k ok v D wr)
    (hx : VERS.drop k = x :: VERS.drop (k + 1)) (hok : (ok || (x.toList == m.toList)) = true)
    (hown' : w'.ownsRow w.heap.size 9 1 v' (D.length + (strVals [x]).length) (strVals D ++ strVals [x]))
    (hg : (wr.alloc o).grownBy w' v.ownBlock) (hat : ∀ g, v'.ownBlock = some g → v.ownBlock = some g ∨ g = (wr.alloc o).heap.size) :
    FromRel m w w1 b' (k + 1) true v' (D ++ [x]) w' := by
  have hsz := hg.size
  simp at hsz
  refine ⟨?_, by simp [h.len], ?_, ?_, ?_, ?_, by have := h.lt; omega⟩
  · have e1 : (D ++ [x]).length = D.length + (strVals [x]).length := by simp [strVals]
    have e2 : strVals (D ++ [x]) = strVals D ++ strVals [x] := by simp [strVals]
    rw [e1, e2]
    exact hown'
  · rw [h.res, hx]
    simp only [fromA, hok, if_true, List.append_assoc, List.singleton_append]
  · refine (h.below.alloc h.below.size o).grown hg (by have := h.below.size; simp; omega) fun b hbk => ?_
    exact (h.own.lt b hbk).1
  · intro e
    rcases hat _ e with hat | hat
    · exact h.ne hat
    · have := h.lt
      simp at hat
      omega
  · rw [hg.block b' (by have := h.lt; simp; omega) (fun e => h.ne e.symm), Below.heap_alloc _ _ _ h.lt]
    exact h.keep

theorem FromRel.no {m : ByteArray} {w w1 wr : World} {b' k : Nat} {ok : Bool} {v : Value} {x : ByteArray} {D : List ByteArray} (h : FromRel m w w1 b' k ok v D wr)
    (hx : VERS.drop k = x :: VERS.drop (k + 1)) (hok : (ok || (x.toList == m.toList)) = false) : FromRel m w w1 b' (k + 1) false v D wr := by
  refine ⟨h.own, Nat.le_succ_of_le h.len, ?_, h.below, h.ne, h.keep, h.lt⟩
  rw [h.res, hx]
  simp only [fromA, hok]
  simp

set_option maxHeartbeats 2000000 in
set_option maxRecDepth 100000 in
theorem from_any (m : ByteArray) (w : World) (Q : Ending → World → Prop)
    (hyes : ∀ (xs : List ByteArray), fromA m false VERS = xs → 0 < xs.length → ∀ e w', PlugPost w (strVals xs) e w' → Q e w')
    (hno : fromA m false VERS = [] → ∀ e w', PanicPost w e w' → Q e w') :
    Calls Tryd.prog 21 #[.string m] w Q := by
  obtain ⟨i0, hi, hz0, hz1, hz2⟩ := info_parts info9c
  have HI := Lib.hid hi
  have HY := Lib.hid hyes
  have HN := Lib.hid hno
  clear hi hyes hno
  go_enter Tryd.func21, Tryd.ntmps21
  go_wp2_with fail
  refine (all_any _).mono ?_
  rintro e w1 ⟨v, rfl, ⟨b, sv, rfl, hc, hs⟩, hb1⟩
  rcases hs.out with ⟨h0, _⟩ | ⟨b', off, cap, rfl, hbs, _, _, _, hcell⟩
  · exact absurd h0 (by decide)
  have h7 : (strVals VERS).length = 7 := rfl
  rw [h7] at hcell hc
  have hown := World.ownsRow_made (base := w.heap.size) (e := 9) (size := 1) w #[] 0 (Nat.le_refl _) (Nat.zero_le _) rfl
  have hown1 := hown.kept (row := none) (w' := w1) ⟨hb1.os, hb1.tape, hb1.output, hb1.size, fun k hk _ => hb1.block k hk⟩ (by simp [Value.ownBlock])
  have hbw := below_tr ((Below.refl w.heap.size w).alloc (Nat.le_refl _) _) hb1
  have hne : b' ≠ w.heap.size := by
    intro e
    have h1 := hcell 0 (by decide)
    have h2 := hb1.cell (p := ⟨b', off + 0, none⟩) (by rw [e]; simp)
    rw [h1] at h2
    have h3 := cell_of_row (w.alloc (.cells #[] 9)) w.heap.size (off + 0) #[] 9 (0, 0) (heap_alloc_new w _)
    rw [e, h3] at h2
    simp at h2
  have hstart : FromRel m w w1 b' 0 false (.slice (some ⟨w.heap.size, 0, none⟩) 0 0) [] w1 :=
    ⟨hown1, Nat.le_refl _, rfl, hbw, by simp [Value.ownBlock]; exact fun e => hne e.symm, rfl, hbs⟩
  have HST := Lib.hid hstart
  have HC := Lib.hid hcell
  clear hs hb1 hcell hown hown1 h7 hbw hne hstart
  go_wp2_with (go_at_call 73; refine (told_any _ _ _ hc).mono ?_; rintro e w' ⟨rfl, rfl⟩)
  go_loopw [3, 4, 11] (fun v o i wr => ∃ (k : Nat) (ok : Bool) (D : List ByteArray), k ≤ 7 ∧ i = .int .i64 k ∧ o = .bool ok ∧ Hid (FromRel m w w1 b' k ok v D wr)) (fun _ _ i _ => 7 - (intOf i).toNat)
  case atStart => exact ⟨0, false, [], by omega, rfl, rfl, HST.out⟩
  case round =>
    obtain ⟨k, ok, D, hk, rfl, rfl, HR⟩ := hrel
    by_cases hlt : k < 7
    · obtain ⟨x, hx, hxk⟩ : ∃ x, VERS.drop k = x :: VERS.drop (k + 1) ∧ (strVals VERS).getD k undef = .string x := by
        refine ⟨VERS.getD k ByteArray.empty, ?_, strVals_getD VERS k hlt⟩
        rw [List.drop_eq_getElem_cons (show k < VERS.length from hlt), List.getD_eq_getElem?_getD, List.getElem?_eq_getElem (show k < VERS.length from hlt)]
        rfl
      have hcell : wr.cell? ⟨b', off + k, none⟩ = some (.string x) := by
        rw [World.cell?_of_block HR.out.keep, HC.out k hlt, hxk]
      have hD := HR.out.len
      have HX := Lib.hid hx
      clear hx hxk
      cases hok : ok with
      | true =>
        subst hok
        go_wp2_with (at_builtin; go_must (refine wpList_append_slg _ rfl _ _ 32 rfl w.heap.size 9 i0 (.string ByteArray.empty) 16 Tryd.underlying32 HI.out hz0 hz1 hz2 rfl u3 D.length (strVals D) rfl (HR.out.own.alloc _) _ (strVals [x]) rfl (slat_one _ _) (strVals_one _) ?_ ?_ ?_ ?_ ?_; (focus simp [strVals]); (focus (rw [strVals_length]; unfold maxLen; simp; omega)); (focus (rw [strVals_length]; simp; omega)); (focus (have := HR.out.below.size; simp; omega)); intro v' w' hown' hg hat))
        go_roundw
        case rel => exact ⟨k + 1, true, _, by omega, by go_num, rfl, HR.out.yes HX.out rfl hown' hg hat⟩
        case measure => simp [intOf]; omega
      | false =>
        subst hok
        cases hq : (x.toList == m.toList) with
        | true =>
          have HQ := Lib.hid hq
          go_wp2_with (at_builtin; go_must (refine wpList_append_slg _ rfl _ _ 32 rfl w.heap.size 9 i0 (.string ByteArray.empty) 16 Tryd.underlying32 HI.out hz0 hz1 hz2 rfl u3 D.length (strVals D) rfl (HR.out.own.alloc _) _ (strVals [x]) rfl (slat_one _ _) (strVals_one _) ?_ ?_ ?_ ?_ ?_; (focus simp [strVals]); (focus (rw [strVals_length]; unfold maxLen; simp; omega)); (focus (rw [strVals_length]; simp; omega)); (focus (have := HR.out.below.size; simp; omega)); intro v' w' hown' hg hat))
          go_roundw
          case rel => exact ⟨k + 1, true, _, by omega, by go_num, rfl, HR.out.yes HX.out (by rw [HQ.out]; rfl) hown' hg hat⟩
          case measure => simp [intOf]; omega
        | false =>
          have HQ := Lib.hid hq
          go_wp2_with fail
          go_roundw
          case rel => exact ⟨k + 1, false, D, by omega, by go_num, rfl, HR.out.no HX.out (by rw [HQ.out]; rfl)⟩
          case measure => simp [intOf]; omega
    · obtain rfl : k = 7 := by omega
      have hres : fromA m false VERS = D := by
        have := HR.out.res
        rw [this]
        have hnil : VERS.drop 7 = [] := rfl
        rw [hnil]
        cases ok <;> simp [fromA]
      have hsl := SlAt.of_owns HR.out.own
      obtain ⟨ao, cp, hv, _⟩ := hsl.len
      rw [strVals_length] at hv
      have hbelow := HR.out.below
      have HRES := Lib.hid hres
      have HSL := Lib.hid hsl
      have HBL := Lib.hid hbelow
      have hD := HR.out.len
      clear hres hsl hbelow HR
      subst hv
      by_cases h0 : D.length = 0
      · obtain rfl := List.eq_nil_of_length_eq_zero h0
        go_wp2_with fail
        refine (plug_panic _ _ _).mono ?_
        rintro e w2 ⟨rfl, hb⟩
        go_wp2_with fail
        exact ⟨rfl, HN.out HRES.out _ _ ⟨rfl, below_tr HBL.out hb⟩⟩
      · have h0' : 0 < D.length := by omega
        clear h0
        go_wp2_with fail
        refine (plug_any _ _ _ _ _ h0' (by omega) HSL.out).mono ?_
        rintro e w2 ⟨v2, rfl, hp, hb⟩
        have HP := Lib.hid hp
        clear hp
        go_wp2_with fail
        exact HY.out D HRES.out h0' _ _ ⟨_, rfl, HP.out, below_tr HBL.out hb⟩

end Go.Proofs.YtjoemgniakcjlaaDoor

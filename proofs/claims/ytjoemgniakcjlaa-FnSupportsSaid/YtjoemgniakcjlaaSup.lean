/-
  FnSupports: the functions that it reaches.
-/
import Derived.Test.YtjoemgniakcjlaaShort
import Derived.Handy
namespace Go.Proofs.Ytjoemgniakcjlaa
open Go.RowKit

theorem zz3_none (a : Option Addr) (cap : Nat) (w : World) :
    Calls Try.prog 4 #[.slice a 0 cap] w fun e w' => e = .returned (.bool true) ∧ w = w' := by
  go_enter Try.func4, Try.ntmps4
  go_wp2
  refine wp_loop_rounds 1 ?_
  rw [rounds_succ]
  go_wp2
  go_ret
  exact ⟨rfl, rfl⟩

/-- zzFits3 answers; if true the list is short and so are its texts. -/
def zz3 (ss : List ByteArray) : Bool := decide ((ss.length : Int) ≤ 2147483647) && ss.all fun s => decide ((s.size : Int) ≤ 2147483647)

set_option maxHeartbeats 400000 in
theorem zz3_some (b off : Nat) (n cap : Nat) (ss : List ByteArray) (w : World) (hn : ss.length = n) (hm : n ≤ 9223372036854775807)
    (hc : ∀ i, i < n → w.cell? ⟨b, off + i, none⟩ = some (.string (ss.getD i ByteArray.empty))) :
    Calls Try.prog 4 #[.slice (some ⟨b, off, none⟩) n cap] w fun e w' => e = .returned (.bool (zz3 ss)) ∧ w = w' := by
  have HN := Lib.hid hn
  have HC := Lib.hid hc
  clear hn hc
  by_cases hbig : 2147483647 < (n : Int)
  · go_enter Try.func4, Try.ntmps4
    go_wp2
    go_ret
    exact ⟨ret_bool (by simp only [zz3]; rw [decide_eq_false (by rw [HN.out]; omega)]; rfl), rfl⟩
  go_enter Try.func4, Try.ntmps4
  go_wp2
  go_loop [10] (fun i => ∃ k : Nat, k ≤ n ∧ i = .int .i64 k ∧ Hid (∀ j, j < k → ((ss.getD j ByteArray.empty).size : Int) ≤ 2147483647)) (fun i => n - (intOf i).toNat)
  case atStart => exact ⟨0, Nat.zero_le _, rfl, fun j hj => by omega⟩
  case round =>
    obtain ⟨k, hk, rfl, hall⟩ := hrel
    by_cases hlt : k < n
    · have hcell := HC.out k hlt
      generalize hx : ss.getD k ByteArray.empty = x at hcell
      have HX := Lib.hid hx
      clear hx
      by_cases hl : 2147483647 < (x.size : Int)
      · go_wp2
        go_ret
        refine ⟨ret_bool ?_, rfl⟩
        have h2 : (ss.all fun s => decide ((s.size : Int) ≤ 2147483647)) = false := by
          rw [List.all_eq_false]
          have hk' : k < ss.length := by rw [HN.out]; exact hlt
          refine ⟨ss.getD k ByteArray.empty, ?_, by rw [HX.out]; simp; omega⟩
          rw [List.getD_eq_getElem?_getD, List.getElem?_eq_getElem hk']
          exact List.getElem_mem hk'
        simp only [zz3]
        rw [h2, Bool.and_false]
      · go_wp2
        go_round
        case rel => exact ⟨k + 1, by omega, by go_num, fun j hj => by
          by_cases hjk : j = k
          · rw [hjk, HX.out]; omega
          · exact hall.out j (by omega)⟩
        case measure => simp [intOf]; omega
    · obtain rfl : k = n := by omega
      go_wp2
      go_ret
      refine ⟨ret_bool ?_, rfl⟩
      have h2 : (ss.all fun s => decide ((s.size : Int) ≤ 2147483647)) = true := by
        rw [List.all_eq_true]
        intro s hs
        obtain ⟨j, hj, rfl⟩ := List.getElem_of_mem hs
        have := hall.out j (by rw [← HN.out]; exact hj)
        rw [List.getD_eq_getElem?_getD, List.getElem?_eq_getElem hj] at this
        simpa using this
      simp only [zz3]
      rw [h2, decide_eq_true (by rw [HN.out]; omega)]
      rfl

theorem zz3_any (v : Value) (ss : List ByteArray) (w : World) (h : SlAt w v (strVals ss)) :
    Calls Try.prog 4 #[v] w fun e w' => e = .returned (.bool (zz3 ss)) ∧ w = w' := by
  rcases h.out with ⟨h0, ao, cap, rfl, _⟩ | ⟨b, off, cap, rfl, hb, hl, hm, h0, hc⟩
  · have hs : ss = [] := by cases ss; rfl; cases h0
    subst hs
    exact zz3_none ao cap w
  · rw [strVals_length] at hl hc ⊢
    refine zz3_some b off ss.length cap ss w rfl (by unfold maxLen at hm; omega) fun i hi => ?_
    rw [hc i hi, strVals_getD ss i hi]

/- slices.Clone of texts -/
def ClonePost (w : World) (xs : List Value) (e : Ending) (w' : World) : Prop := ∃ v', e = .returned v' ∧ SlAt w' v' xs ∧ Below w.heap.size w w'

theorem info9 : (Try.prog.info? 9).map (fun i => (i.zero, i.size, i.bytes)) = some (some (.string ByteArray.empty), 1, 16) := by kernel_rfl

set_option maxHeartbeats 400000 in
theorem clone_nil (w : World) :
    Calls Try.prog 9 #[.slice none 0 0] w fun e w' => e = .returned (.slice none 0 0) ∧ w = w' := by
  have hnil := fun w a n c => Lib.run_eql_slice_nil (P := Try.prog) w 22 9 a n c 0 0 Try.underlying22
  go_enter Try.func9, Try.ntmps9
  go_wp2
  go_ret
  exact ⟨rfl, rfl⟩

set_option maxHeartbeats 400000 in
theorem clone_some (a : Addr) (n cap : Nat) (xs : List Value) (w : World) (hn : xs.length = n) (hm : n ≤ 1000000) (h : SlAt w (.slice (some a) n cap) xs) (h1 : ∀ u ∈ xs, u.oneCell' = true) :
    Calls Try.prog 9 #[.slice (some a) n cap] w (ClonePost w xs) := by
  have hnil := fun w a n c => Lib.run_eql_slice_nil (P := Try.prog) w 22 9 a n c 0 0 Try.underlying22
  obtain ⟨i0, hi, hz0, hz1, hz2⟩ := info_parts info9
  have H := Lib.hid h
  have HN := Lib.hid hn
  have H1 := Lib.hid h1
  clear h hn h1
  have hown := World.ownsRow_made (base := w.heap.size) (e := 9) (size := 1) w #[] 0 (Nat.le_refl _) (Nat.zero_le _) rfl
  have HO := Lib.hid hown
  have HI := Lib.hid hi
  clear hown hi
  go_enter Try.func9, Try.ntmps9
  go_wp2_with (at_builtin; go_must (refine wpList_append_sl _ rfl _ _ 22 rfl w.heap.size 9 i0 (.string ByteArray.empty) 16 Try.underlying22 HI.out hz0 hz1 hz2 rfl (.slice (some ⟨w.heap.size, 0, none⟩) 0 0) 0 [] rfl HO.out _ xs rfl (H.out.keep ((Below.refl _ _).alloc (Nat.le_refl _) _)) H1.out ?_ ?_ ?_ ?_; (focus (have := HN.out; unfold maxLen; omega)); (focus (have := HN.out; omega)); (focus simp); intro v' w' hown' hg _))
  go_ret
  exact ⟨_, rfl, SlAt.of_owns hown', ((Below.refl _ _).alloc (Nat.le_refl _) _).grown hg (by simp) (by simp [Value.ownBlock])⟩

theorem clone_any (v : Value) (ss : List ByteArray) (w : World) (hn : ss.length ≤ 1000000) (h : SlAt w v (strVals ss)) :
    Calls Try.prog 9 #[v] w (ClonePost w (strVals ss)) := by
  have h' := h
  obtain ⟨ao, cap, rfl, hl, hm, hno, hc⟩ := h
  cases ao with
  | none =>
    obtain ⟨h0, rfl⟩ := hno rfl
    rw [h0] at h' ⊢
    exact (clone_nil w).mono fun e w' ⟨he, hw⟩ => ⟨_, he, by rw [← hw]; exact h', by rw [← hw]; exact Below.refl _ _⟩
  | some a =>
    refine clone_some a _ cap _ w rfl (by rw [strVals_length]; exact hn) h' fun u hu => ?_
    simp only [strVals, List.mem_map] at hu
    obtain ⟨s, _, rfl⟩ := hu
    rfl

/- Reconciler.CheckRaw, Check, PluginSupports -/
def pickSup (config : ByteArray) (ss : List ByteArray) : Bool := ss.any fun s => config.toList == s.toList

theorem pickSup_of (config : ByteArray) (ss : List ByteArray) (k : Nat) (hk : k < ss.length) (h : (config.toList == (ss.getD k ByteArray.empty).toList) = true) : pickSup config ss = true := by
  unfold pickSup
  rw [List.any_eq_true]
  refine ⟨ss.getD k ByteArray.empty, ?_, h⟩
  rw [List.getD_eq_getElem?_getD, List.getElem?_eq_getElem hk]
  exact List.getElem_mem hk

theorem pickSup_no (config : ByteArray) (ss : List ByteArray) (h : ∀ j, j < ss.length → (config.toList == (ss.getD j ByteArray.empty).toList) = false) : pickSup config ss = false := by
  unfold pickSup
  rw [List.any_eq_false]
  intro s hs
  obtain ⟨k, hk, rfl⟩ := List.getElem_of_mem hs
  have := h k hk
  rw [List.getD_eq_getElem?_getD, List.getElem?_eq_getElem hk] at this
  simpa using this

def RawPost (w : World) (b : Bool) (e : Ending) (w' : World) : Prop := ∃ p : Option Addr, e = .returned (.pointer p) ∧ p.isNone = b ∧ Below w.heap.size w w'

set_option maxHeartbeats 400000 in
theorem raw_none (r : Value) (config : ByteArray) (a : Option Addr) (cap : Nat) (w : World) :
    Calls Try.prog 12 #[r, .string config, .slice a 0 cap] w (RawPost w false) := by
  go_enter Try.func12, Try.ntmps12
  go_wp2
  refine wp_loop_rounds 1 ?_
  rw [rounds_succ]
  go_wp2
  go_ret
  exact ⟨_, rfl, rfl, (Below.refl _ _).alloc (Nat.le_refl _) _⟩

set_option maxHeartbeats 400000 in
theorem raw_some (r : Value) (config : ByteArray) (b off : Nat) (n cap : Nat) (ss : List ByteArray) (w : World) (hn : ss.length = n) (hm : n ≤ 9223372036854775807)
    (hc : ∀ i, i < n → w.cell? ⟨b, off + i, none⟩ = some (.string (ss.getD i ByteArray.empty))) :
    Calls Try.prog 12 #[r, .string config, .slice (some ⟨b, off, none⟩) n cap] w (RawPost w (pickSup config ss)) := by
  have HN := Lib.hid hn
  have HC := Lib.hid hc
  clear hn hc
  go_enter Try.func12, Try.ntmps12
  go_wp2
  go_loop [11] (fun i => ∃ k : Nat, k ≤ n ∧ i = .int .i64 k ∧ Hid (∀ j, j < k → (config.toList == (ss.getD j ByteArray.empty).toList) = false)) (fun i => n - (intOf i).toNat)
  case atStart => exact ⟨0, Nat.zero_le _, rfl, fun j hj => by omega⟩
  case round =>
    obtain ⟨k, hk, rfl, hall⟩ := hrel
    by_cases hlt : k < n
    · have hcell := HC.out k hlt
      generalize hx : ss.getD k ByteArray.empty = x at hcell
      have HX := Lib.hid hx
      clear hx
      cases hq : (config.toList == x.toList) with
      | true =>
        go_wp2
        go_ret
        exact ⟨none, rfl, by rw [pickSup_of config ss k (by rw [HN.out]; exact hlt) (by rw [HX.out]; exact hq)]; rfl, Below.refl _ _⟩
      | false =>
        have HQ := Lib.hid hq
        go_wp2
        go_round
        case rel => exact ⟨k + 1, by omega, by go_num, fun j hj => by
          by_cases hjk : j = k
          · rw [hjk, HX.out]; exact HQ.out
          · exact hall.out j (by omega)⟩
        case measure => simp [intOf]; omega
    · obtain rfl : k = n := by omega
      go_wp2
      go_ret
      exact ⟨_, rfl, by rw [pickSup_no config ss (fun j hj => hall.out j (by rw [← HN.out]; exact hj))]; rfl, (Below.refl _ _).alloc (Nat.le_refl _) _⟩

theorem raw_any (r : Value) (config : ByteArray) (v : Value) (ss : List ByteArray) (w : World) (h : SlAt w v (strVals ss)) :
    Calls Try.prog 12 #[r, .string config, v] w (RawPost w (pickSup config ss)) := by
  rcases h.out with ⟨h0, ao, cap, rfl, _⟩ | ⟨b, off, cap, rfl, hb, hl, hm, h0, hc⟩
  · have hs : ss = [] := by cases ss; rfl; cases h0
    subst hs
    exact raw_none r config ao cap w
  · rw [strVals_length] at hl hc ⊢
    refine raw_some r config b off ss.length cap ss w rfl (by unfold maxLen at hm; omega) fun i hi => ?_
    rw [hc i hi, strVals_getD ss i hi]

/-- A plugin's versions behind the interface value. -/
def PlugAt (w : World) (v : Value) (xs : List Value) : Prop :=
  ∃ b sv, v = .iface 41 (.pointer (some ⟨b, 0, none⟩)) ∧ w.cell? ⟨b, 1, none⟩ = some sv ∧ SlAt w sv xs
def PlugPost (w : World) (xs : List Value) (e : Ending) (w' : World) : Prop := ∃ v', e = .returned v' ∧ PlugAt w' v' xs ∧ Below w.heap.size w w'

set_option maxHeartbeats 400000 in
theorem plug_any (ao : Option Addr) (n cap : Nat) (xs : List Value) (w : World) (h0 : 0 < n) (hm : n ≤ 9223372036854775807) (h : SlAt w (.slice ao n cap) xs) :
    Calls Try.prog 8 #[.slice ao n cap] w (PlugPost w xs) := by
  have H := Lib.hid h
  clear h
  go_enter Try.func8, Try.ntmps8
  go_wp2
  go_ret
  refine ⟨_, rfl, ⟨w.heap.size, .slice ao n cap, rfl, by simp [go_sem], H.out.keep ?_⟩, ?_⟩
  all_goals go_grown

set_option maxHeartbeats 400000 in
theorem check_any (r : Value) (config : ByteArray) (v : Value) (ss : List ByteArray) (w : World) (h : PlugAt w v (strVals ss)) :
    Calls Try.prog 7 #[r, .string config, v] w (RawPost w (pickSup config ss)) := by
  obtain ⟨b, sv, rfl, hc, hs⟩ := h
  have HS := Lib.hid hs
  clear hs
  go_enter Try.func7, Try.ntmps7
  go_wp2_with (first | (go_at_call 12; refine (raw_any _ _ _ _ _ HS.out).mono ?_; rintro e w' ⟨p, rfl, hp, hb⟩; have HP := Lib.hid hp; have HB := Lib.hid hb; clear hp hb) | go_in)
  go_ret
  exact ⟨p, rfl, HP.out, HB.out⟩

def SupPost (w : World) (b1 b2 : Bool) (e : Ending) (w' : World) : Prop := e = .returned (.tuple #[.bool b1, .bool b2]) ∧ Below w.heap.size w w'

set_option maxHeartbeats 400000 in
theorem supports_any (config : ByteArray) (v : Value) (ss : List ByteArray) (w : World) (h : SlAt w v (strVals ss)) (hc : (config.size : Int) ≤ 8) (hl : longIn ss = false) (h0 : 0 < ss.length) (h20 : (ss.length : Int) ≤ 20) :
    Calls Try.prog 5 #[.string config, v] w (SupPost w (pickSup config ss) true) := by
  have H := Lib.hid h
  have HL := Lib.hid hl
  obtain ⟨ao, cap, hv, _⟩ := h.len
  rw [strVals_length] at hv
  subst hv
  have hl1 : longIn [config] = false := by simp [longIn]; omega
  have HL1 := Lib.hid hl1
  clear h hl hl1
  have t0 : ((ss.length : Int) == 0) = false := beq_eq_false_iff_ne.2 (by omega)
  have t3 : decide (300 < (ss.length : Int)) = false := by simp; omega
  go_enter Try.func5, Try.ntmps5
  go_wp2_with fail
  refine (short_yes _ [config] _ (slat_one _ _) HL1.out).mono ?_
  rintro e w' ⟨rfl, rfl⟩
  go_wp2_with fail
  refine (short_yes _ ss _ (H.out.keep ?_) HL.out).mono ?_
  · go_grown
  rintro e w' ⟨rfl, rfl⟩
  go_wp2_with fail
  refine (clone_any _ ss _ (by omega) (H.out.keep ?_)).mono ?_
  · go_grown
  rintro e w1 ⟨v1, rfl, hs1, hb1⟩
  obtain ⟨ao1, cap1, hv1, _⟩ := hs1.len
  rw [strVals_length] at hv1
  subst hv1
  have HS1 := Lib.hid hs1
  clear hs1
  go_wp2_with fail
  refine (plug_any _ _ _ _ _ h0 (by omega) HS1.out).mono ?_
  rintro e w2 ⟨v2, rfl, hp2, hb2⟩
  have HP2 := Lib.hid hp2
  clear hp2
  go_wp2_with fail
  refine (check_any _ _ _ ss _ HP2.out).mono ?_
  rintro e w3 ⟨p, rfl, hp3, hb3⟩
  have HP3 := Lib.hid hp3
  clear hp3
  go_wp2_with fail
  go_ret2
  exact ⟨by rw [HP3.out]; rfl, below_tr (below_tr (below_tr (((Below.refl _ _).alloc (Nat.le_refl _) _).alloc (by simp) _) hb1) hb2) hb3⟩

/- THE LAW -/
def LawPost (w : World) (e : Ending) (w' : World) : Prop := e = .returned (.bool true) ∧ Below w.heap.size w w'

set_option maxHeartbeats 400000 in
theorem law_long (config : ByteArray) (v : Value) (w : World) (hc : 2147483647 < (config.size : Int)) :
    Calls Try.prog 3 #[.string config, v] w (LawPost w) := by
  go_enter Try.func3, Try.ntmps3
  go_wp2
  go_ret
  exact ⟨rfl, Below.refl _ _⟩

set_option maxHeartbeats 400000 in
theorem law_zz (config : ByteArray) (v : Value) (ss : List ByteArray) (w : World) (h : SlAt w v (strVals ss)) (hc : (config.size : Int) ≤ 2147483647) (hz : zz3 ss = false) :
    Calls Try.prog 3 #[.string config, v] w (LawPost w) := by
  have H := Lib.hid h
  clear h
  go_enter Try.func3, Try.ntmps3
  go_wp2_with (go_at_call 4; refine (zz3_any _ ss _ H.out).mono ?_; rintro e w' ⟨rfl, rfl⟩)
  go_ret
  exact ⟨rfl, Below.refl _ _⟩

set_option maxHeartbeats 400000 in
theorem law_out (config : ByteArray) (v : Value) (ss : List ByteArray) (w : World) (h : SlAt w v (strVals ss)) (hc : (config.size : Int) ≤ 2147483647) (hz : zz3 ss = true)
    (hout : 8 < (config.size : Int) ∨ (ss.length : Int) < 1 ∨ 20 < (ss.length : Int)) :
    Calls Try.prog 3 #[.string config, v] w (LawPost w) := by
  have H := Lib.hid h
  obtain ⟨ao, cap, hv, _⟩ := h.len
  rw [strVals_length] at hv
  subst hv
  clear h
  by_cases h8 : 8 < (config.size : Int)
  · clear hout
    go_enter Try.func3, Try.ntmps3
    go_wp2_with (go_at_call 4; refine (zz3_any _ ss _ H.out).mono ?_; rintro e w' ⟨rfl, rfl⟩)
    go_ret
    exact ⟨rfl, Below.refl _ _⟩
  · by_cases h1 : (ss.length : Int) < 1
    · clear hout
      go_enter Try.func3, Try.ntmps3
      go_wp2_with (go_at_call 4; refine (zz3_any _ ss _ H.out).mono ?_; rintro e w' ⟨rfl, rfl⟩)
      go_ret
      exact ⟨rfl, Below.refl _ _⟩
    · have h20 : 20 < (ss.length : Int) := by omega
      clear hout
      go_enter Try.func3, Try.ntmps3
      go_wp2_with (go_at_call 4; refine (zz3_any _ ss _ H.out).mono ?_; rintro e w' ⟨rfl, rfl⟩)
      go_ret
      exact ⟨rfl, Below.refl _ _⟩

theorem pickSup_take (config : ByteArray) (ss : List ByteArray) (k : Nat) (hk : k < ss.length) :
    pickSup config (ss.take (k + 1)) = (pickSup config (ss.take k) || config.toList == (ss.getD k ByteArray.empty).toList) := by
  unfold pickSup
  rw [List.take_succ_eq_append_getElem hk, List.any_append]
  simp [List.getD_eq_getElem?_getD, List.getElem?_eq_getElem hk]

set_option maxHeartbeats 800000 in
theorem law_in (config : ByteArray) (b off n cap : Nat) (ss : List ByteArray) (w : World) (h : SlAt w (.slice (some ⟨b, off, none⟩) n cap) (strVals ss)) (hn : ss.length = n)
    (hcell : ∀ i, i < n → w.cell? ⟨b, off + i, none⟩ = some (.string (ss.getD i ByteArray.empty))) (hz : zz3 ss = true)
    (h8 : (config.size : Int) ≤ 8) (h1 : 1 ≤ (n : Int)) (h20 : (n : Int) ≤ 20) :
    Calls Try.prog 3 #[.string config, .slice (some ⟨b, off, none⟩) n cap] w (LawPost w) := by
  have H := Lib.hid h
  have HN := Lib.hid hn
  have HC := Lib.hid hcell
  clear h hn hcell
  go_enter Try.func3, Try.ntmps3
  go_wp2_with (go_at_call 4; refine (zz3_any _ ss _ H.out).mono ?_; rintro e w' ⟨rfl, rfl⟩)
  go_loop [5, 33] (fun g i => ∃ k : Nat, k ≤ n ∧ i = .int .i64 k ∧ g = .bool (pickSup config (ss.take k)) ∧ Hid (∀ j, j < k → ((ss.getD j ByteArray.empty).size : Int) ≤ 8)) (fun _ i => n - (intOf i).toNat)
  case atStart => exact ⟨0, Nat.zero_le _, rfl, rfl, fun j hj => by omega⟩
  case round =>
    obtain ⟨k, hk, rfl, rfl, hall⟩ := hrel
    by_cases hlt : k < n
    · have hcell := HC.out k hlt
      have hp := pickSup_take config ss k (by rw [HN.out]; exact hlt)
      generalize hx : ss.getD k ByteArray.empty = x at hcell hp
      generalize hg : pickSup config (ss.take k) = g at hp ⊢
      generalize hg' : pickSup config (ss.take (k + 1)) = g' at hp ⊢
      have HX := Lib.hid hx
      have HG' := Lib.hid hg'
      have HP := Lib.hid hp
      clear hx hg hg' hp
      by_cases hl : 8 < (x.size : Int)
      · go_wp2
        go_ret
        exact ⟨rfl, Below.refl _ _⟩
      · cases g <;> cases hq : (config.toList == x.toList)
        all_goals
          have HQ := Lib.hid hq
          rw [BEq.comm] at hq
          go_wp2
          go_round
          case rel => exact ⟨k + 1, by omega, by go_num, by rw [HG'.out, HP.out, HQ.out]; rfl, fun j hj => by
            by_cases hjk : j = k
            · rw [hjk, HX.out]; omega
            · exact hall.out j (by omega)⟩
          case measure => simp [intOf]; omega
    · obtain rfl : k = n := by omega
      have hl : longIn ss = false := longIn_no ss fun j hj => by
        have := hall.out j (by rw [← HN.out]; exact hj)
        omega
      have HL := Lib.hid hl
      have ht : pickSup config (ss.take k) = pickSup config ss := by rw [List.take_of_length_le (by rw [HN.out]; exact Nat.le_refl _)]
      rw [ht]
      generalize hg : pickSup config ss = g
      have HG := Lib.hid hg
      clear hl ht hg
      go_wp2_with fail
      refine (supports_any _ _ ss _ H.out h8 HL.out (by have := HN.out; omega) (by have := HN.out; omega)).mono ?_
      rintro e w1 ⟨rfl, hb⟩
      rw [HG.out]
      cases g
      all_goals
        go_wp2_with fail
        go_ret
        exact ⟨rfl, hb⟩

theorem law_any (config : ByteArray) (v : Value) (ss : List ByteArray) (w : World) (h : SlAt w v (strVals ss)) :
    Calls Try.prog 3 #[.string config, v] w (LawPost w) := by
  by_cases hc : 2147483647 < (config.size : Int)
  · exact law_long config v w hc
  cases hz : zz3 ss with
  | false => exact law_zz config v ss w h (by omega) hz
  | true =>
    by_cases hout : 8 < (config.size : Int) ∨ (ss.length : Int) < 1 ∨ 20 < (ss.length : Int)
    · exact law_out config v ss w h (by omega) hz hout
    · rcases h.out with ⟨h0, _⟩ | ⟨b, off, cap, rfl, hb, hl, hm, h0, hcl⟩
      · exfalso
        have : ss.length = 0 := by rw [← strVals_length, h0]; rfl
        omega
      · have hgo := law_in config b off ss.length cap ss w (by rw [strVals_length] at h; exact h) rfl
        rw [strVals_length] at hl hcl ⊢
        refine hgo (fun i hi => ?_) hz (by omega) (by omega) (by omega)
        rw [hcl i hi, strVals_getD ss i hi]

end Go.Proofs.Ytjoemgniakcjlaa

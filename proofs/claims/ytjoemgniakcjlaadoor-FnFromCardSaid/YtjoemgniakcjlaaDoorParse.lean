/-
  cniversion.ParseVersion of what is a version, and of four parts.
-/
import Derived.Test.YtjoemgniakcjlaaDoorVer
import Derived.Test.YtjoemgniakcjlaaDoorSplit
import Derived.Test.YtjoemgniakcjlaaDoorAtoi
namespace Go.Proofs.YtjoemgniakcjlaaDoor
open Go.RowKit
set_option linter.unusedVariables false

theorem verGo_split : ∀ (n : Nat) (P : List Int) (l : List UInt8) (Q : List Int), verGo n P l = some Q →
    (splitL l).length ≤ n ∧ (∀ p ∈ splitL l, numOK 999999 p = true) ∧ Q = P ++ (splitL l).map valL
  | 0, _, _, _, h => by cases h
  | n + 1, P, l, Q, h => by
    unfold splitL
    rw [splitA_cut]
    unfold verGo at h
    generalize hc : cutL 46 l = c at h ⊢
    obtain ⟨p, q, more⟩ := c
    simp only [List.nil_append] at h ⊢
    cases hp : numOK 999999 p with
    | false => rw [hp] at h; simp at h
    | true =>
      rw [hp] at h
      simp only [if_true] at h
      cases more with
      | true =>
        simp only [if_true] at h ⊢
        obtain ⟨h1, h2, h3⟩ := verGo_split n _ q Q h
        refine ⟨by simp only [List.length_cons]; unfold splitL at h1; omega, ?_, ?_⟩
        · intro x hx
          rw [List.mem_cons] at hx
          rcases hx with rfl | hx
          · exact hp
          · exact h2 x hx
        · rw [h3, List.map_cons, List.append_assoc]; rfl
      | false =>
        simp at h ⊢
        exact ⟨hp, h.symm⟩

theorem val_ge : ∀ (l : List UInt8) (n : Int), 0 ≤ n → l.all isDig = true → n * 10 ^ l.length ≤ l.foldl (fun n b => 10 * n + ((b.toNat : Int) - 48)) n
  | [], n, _, _ => by simp
  | b :: l, n, hn, h => by
    rw [List.all_cons, Bool.and_eq_true] at h
    obtain ⟨h1, _⟩ := of_decide_eq_true h.1
    have := val_ge l (10 * n + ((b.toNat : Int) - 48)) (by omega) h.2
    rw [List.foldl_cons, List.length_cons, Int.pow_succ]
    refine Int.le_trans ?_ this
    have hp : (0 : Int) < 10 ^ l.length := Int.pow_pos (by decide)
    have e : n * (10 ^ l.length * 10) = (10 * n) * 10 ^ l.length := by rw [Int.mul_comm (10 ^ l.length) 10, ← Int.mul_assoc, Int.mul_comm n 10]
    rw [e]
    exact Int.mul_le_mul_of_nonneg_right (by omega) (Int.le_of_lt hp)

/-- A number of at most 999999 has at most six digits. -/
theorem numOK_parts {l : List UInt8} (h : numOK 999999 l = true) : 0 < l.length ∧ l.length ≤ 6 ∧ l.all isDig = true := by
  unfold numOK at h
  rw [Bool.and_eq_true, Bool.and_eq_true, Bool.and_eq_true] at h
  obtain ⟨⟨⟨h1, h2⟩, h3⟩, h4⟩ := h
  have hv := of_decide_eq_true h4
  cases l with
  | nil => simp at h1
  | cons b r =>
    refine ⟨Nat.succ_pos _, ?_, h2⟩
    by_cases hr : r.length = 0
    · simp [hr]
    · have hb : b ≠ 48 := by
        intro hb
        subst hb
        simp at h3
        exact hr (by rw [h3]; rfl)
      have h2' := h2
      rw [List.all_cons, Bool.and_eq_true] at h2
      obtain ⟨hb1, hb2⟩ := of_decide_eq_true h2.1
      have hb3 : (1 : Int) ≤ (b.toNat : Int) - 48 := by
        have : b.toNat ≠ 48 := fun e => hb (UInt8.toNat_inj.1 e)
        omega
      have hge := val_ge r (10 * 0 + ((b.toNat : Int) - 48)) (by omega) h2.2
      have hv' : valL (b :: r) = r.foldl (fun n b => 10 * n + ((b.toNat : Int) - 48)) (10 * 0 + ((b.toNat : Int) - 48)) := rfl
      rw [hv'] at hv
      have hle : (10 : Int) ^ r.length ≤ 999999 := by
        refine Int.le_trans ?_ (Int.le_trans hge hv)
        have hp : (0 : Int) < 10 ^ r.length := Int.pow_pos (by decide)
        have := Int.mul_le_mul_of_nonneg_right (show (1 : Int) ≤ 10 * 0 + ((b.toNat : Int) - 48) by omega) (Int.le_of_lt hp)
        rw [Int.one_mul] at this
        exact this
      have : r.length ≤ 5 := by
        rcases Nat.lt_or_ge 5 r.length with h6 | h6
        · exfalso
          have hp : (10 : Nat) ^ 6 ≤ 10 ^ r.length := Nat.pow_le_pow_right (by decide) h6
          have e : ((10 ^ r.length : Nat) : Int) = (10 : Int) ^ r.length := by rw [Int.natCast_pow]; rfl
          have e6 : (10 : Nat) ^ 6 = 1000000 := rfl
          omega
        · exact h6
      simp; omega

theorem split_sum (l acc : List UInt8) : ((splitA acc l).map List.length).sum + (splitA acc l).length = acc.length + l.length + 1 := by
  induction l generalizing acc with
  | nil => simp [splitA]
  | cons b r ih =>
    by_cases hb : b = 46
    · have := ih []
      simp [splitA, hb] at this ⊢
      omega
    · have := ih (acc ++ [b])
      simp only [splitA, if_neg hb]
      simp at this ⊢
      omega

theorem sum_le (ls : List (List UInt8)) (h : ∀ p ∈ ls, p.length ≤ 6) : (ls.map List.length).sum ≤ 6 * ls.length := by
  induction ls with
  | nil => simp
  | cons a ls ih =>
    have h1 := h a (by simp)
    have h2 := ih (fun p hp => h p (by simp [hp]))
    simp
    omega

/-- What is known of the text of a version. -/
theorem verL_size {l : List UInt8} {Q : List Int} (h : verL l = some Q) : l.length ≤ 20 := by
  unfold verL at h
  split at h
  · rename_i h0; rw [h0]; simp
  · obtain ⟨h1, h2, _⟩ := verGo_split 3 [] l Q h
    have hs := split_sum l []
    have hle := sum_le (splitL l) (fun p hp => (numOK_parts (h2 p hp)).2.1)
    unfold splitL at h1 hle
    simp at hs
    omega

def ParsePost (Q : List Int) (w : World) (e : Ending) (w' : World) : Prop :=
  e = .returned (.tuple #[.int .i64 (Q.getD 0 0), .int .i64 (Q.getD 1 0), .int .i64 (Q.getD 2 0), .nilIface]) ∧ Below w.heap.size w w'

/-- A part, ready for Atoi. -/
theorem part_ok {p : ByteArray} (h : numOK 999999 (bl p) = true) : 0 < p.size ∧ p.size < 19 ∧ (bl p).all isDig = true := by
  have := numOK_parts h
  rw [bl_length] at this
  exact ⟨this.1, by omega, this.2.2⟩

set_option maxHeartbeats 1000000 in
set_option maxRecDepth 100000 in
theorem parse_ok (s : ByteArray) (Q : List Int) (w : World) (hv : verL (bl s) = some Q) :
    Calls Tryd.prog 15 #[.string s] w (ParsePost Q w) := by
  have h20 := verL_size hv
  rw [bl_length] at h20
  by_cases h0 : s.size = 0
  · have he : bl s = [] := List.eq_nil_of_length_eq_zero (by rw [bl_length]; exact h0)
    have t1 : s.toList.isEmpty = true := by rw [Lib.toList_data]; show (bl s).isEmpty = true; rw [he]; rfl
    have hq : Q = [0, 1, 0] := by
      unfold verL at hv
      rw [if_pos he] at hv
      exact (Option.some.inj hv).symm
    subst hq
    clear h0 he hv
    go_enter Tryd.func15, Tryd.ntmps15
    go_wp2_with fail
    refine bodyPost_ret (v := .tuple #[.int .i64 0, .int .i64 1, .int .i64 0, .nilIface]) (by simp [results, Tryd.results15, go_sem]) rfl ⟨rfl, Below.refl _ _⟩
  · have he : bl s ≠ [] := fun h => h0 (by rw [← bl_length, h]; rfl)
    have t1 : s.toList.isEmpty = false := by
      rw [Lib.toList_data]
      show (bl s).isEmpty = false
      cases hb : bl s with
      | nil => exact absurd hb he
      | cons => rfl
    have hvs := verGo_split 3 [] (bl s) Q (by unfold verL at hv; rw [if_neg he] at hv; exact hv)
    have hpos := splitA_length (bl s) []
    have HVS := Lib.hid hvs
    have HPOS := Lib.hid hpos
    clear hv he h0 hvs hpos
    go_enter Tryd.func15, Tryd.ntmps15
    go_wp2_with fail
    refine (split_any s _ (by omega)).mono ?_
    rintro e w1 ⟨v, ss, rfl, hsl, hss, _, hb1⟩
    have hlen : ss.length = (splitL (bl s)).length := by rw [← hss, List.length_map]
    obtain ⟨hn3, hok, hQ⟩ := HVS.out
    rw [← hss] at hok hQ hn3
    have hpos := HPOS.out
    rw [← splitL, ← hss, List.length_map] at hpos
    rw [List.length_map] at hn3
    rcases hsl.out with ⟨hx, _⟩ | ⟨b, off, cap, hv, hbs, _, _, _, hcell⟩
    · exfalso
      have : ss.length = 0 := by rw [← strVals_length, hx]; rfl
      omega
    have HB1 := Lib.hid hb1
    clear hsl hlen hss hb1
    rw [strVals_length] at hcell hv
    subst hv
    rcases ss with _ | ⟨a, _ | ⟨b2, _ | ⟨c, _ | ⟨d, ss⟩⟩⟩⟩
    · simp at hpos
    · have c0 := hcell 0 (by simp)
      simp [strVals] at c0
      obtain ⟨a1, a2, a3⟩ := part_ok (hok (bl a) (by simp))
      obtain rfl : Q = [valL (bl a)] := by simpa using hQ
      clear hcell hok hQ hpos hn3 HPOS HVS
      go_wp2_with (go_at_call 26; refine (atoi_any _ _ a1 a2 a3).mono ?_; rintro e w2 ⟨rfl, hb2⟩)
      refine bodyPost_ret (v := .tuple #[.int .i64 (valL (bl a)), .int .i64 0, .int .i64 0, .nilIface]) (by simp [results, Tryd.results15, go_sem]) rfl ⟨rfl, below_tr HB1.out hb2⟩
    · have c0 := hcell 0 (by simp)
      have c1 := hcell 1 (by simp)
      simp [strVals] at c0 c1
      obtain ⟨a1, a2, a3⟩ := part_ok (hok (bl a) (by simp))
      obtain ⟨d1, d2, d3⟩ := part_ok (hok (bl b2) (by simp))
      obtain rfl : Q = [valL (bl a), valL (bl b2)] := by simpa using hQ
      clear hcell hok hQ hpos hn3 HPOS HVS
      go_wp2_with fail
      refine (atoi_any _ _ a1 a2 a3).mono ?_
      rintro e w2 ⟨rfl, hb2⟩
      have c1' := (hb2.cell (p := ⟨b, off + 1, none⟩) hbs).trans c1
      go_wp2_with fail
      refine (atoi_any _ _ d1 d2 d3).mono ?_
      rintro e w3 ⟨rfl, hb3⟩
      go_wp2_with fail
      refine bodyPost_ret (v := .tuple #[.int .i64 (valL (bl a)), .int .i64 (valL (bl b2)), .int .i64 0, .nilIface]) (by simp [results, Tryd.results15, go_sem]) rfl ⟨rfl, below_tr (below_tr HB1.out hb2) hb3⟩
    · have c0 := hcell 0 (by simp)
      have c1 := hcell 1 (by simp)
      have c2 := hcell 2 (by simp)
      simp [strVals] at c0 c1 c2
      obtain ⟨a1, a2, a3⟩ := part_ok (hok (bl a) (by simp))
      obtain ⟨d1, d2, d3⟩ := part_ok (hok (bl b2) (by simp))
      obtain ⟨e1, e2, e3⟩ := part_ok (hok (bl c) (by simp))
      obtain rfl : Q = [valL (bl a), valL (bl b2), valL (bl c)] := by simpa using hQ
      clear hcell hok hQ hpos hn3 HPOS HVS
      go_wp2_with fail
      refine (atoi_any _ _ a1 a2 a3).mono ?_
      rintro e w2 ⟨rfl, hb2⟩
      have c1' := (hb2.cell (p := ⟨b, off + 1, none⟩) hbs).trans c1
      have c2' := (hb2.cell (p := ⟨b, off + 2, none⟩) hbs).trans c2
      have hbs2 : b < w2.heap.size := Nat.lt_of_lt_of_le hbs hb2.size
      go_wp2_with fail
      refine (atoi_any _ _ d1 d2 d3).mono ?_
      rintro e w3 ⟨rfl, hb3⟩
      have c2'' := (hb3.cell (p := ⟨b, off + 2, none⟩) hbs2).trans c2'
      go_wp2_with fail
      refine (atoi_any _ _ e1 e2 e3).mono ?_
      rintro e w4 ⟨rfl, hb4⟩
      go_wp2_with fail
      refine bodyPost_ret (v := .tuple #[.int .i64 (valL (bl a)), .int .i64 (valL (bl b2)), .int .i64 (valL (bl c)), .nilIface]) (by simp [results, Tryd.results15, go_sem]) rfl ⟨rfl, below_tr (below_tr (below_tr HB1.out hb2) hb3) hb4⟩
    · simp at hn3

def BadPost (w : World) (e : Ending) (w' : World) : Prop :=
  ∃ b, e = .returned (.tuple #[.int .i64 (-1), .int .i64 (-1), .int .i64 (-1), .iface 61 (.pointer (some ⟨b, 0, none⟩))]) ∧ Below w.heap.size w w'

set_option maxHeartbeats 1000000 in
set_option maxRecDepth 100000 in
theorem parse_four (s : ByteArray) (w : World) (h20 : s.size ≤ 1000) (hv : 4 ≤ (splitL (bl s)).length) :
    Calls Tryd.prog 15 #[.string s] w (BadPost w) := by
  have hle := splitA_le (bl s) []
  rw [bl_length] at hle
  have h0 : s.size ≠ 0 := fun h => by
    have : splitL (bl s) = [[]] := by rw [List.eq_nil_of_length_eq_zero (show (bl s).length = 0 by rw [bl_length]; exact h)]; rfl
    rw [this] at hv
    simp at hv
  have t1 : s.toList.isEmpty = false := by
    rw [Lib.toList_data]
    show (bl s).isEmpty = false
    cases hb : bl s with
    | nil => exact absurd (by rw [← bl_length, hb]; rfl) h0
    | cons => rfl
  have HV := Lib.hid hv
  have HLE := Lib.hid hle
  clear h0 hv hle
  go_enter Tryd.func15, Tryd.ntmps15
  go_wp2_with fail
  refine (split_any s _ (by omega)).mono ?_
  rintro e w1 ⟨v, ss, rfl, hsl, hss, _, hb1⟩
  obtain ⟨ao, cap, rfl, hm⟩ := hsl.len
  rw [strVals_length] at hm ⊢
  have hlen : 4 ≤ ss.length := by
    have := HV.out
    rw [← hss, List.length_map] at this
    exact this
  have t2 : decide (4 ≤ (ss.length : Int)) = true := by simp; omega
  clear hsl hss
  go_wp2
  refine bodyPost_ret (v := .tuple #[.int .i64 (-1), .int .i64 (-1), .int .i64 (-1), .iface 61 (.pointer (some ⟨w1.heap.size, 0, none⟩))]) (by simp [results, Tryd.results15, go_sem]) rfl ⟨_, rfl, ?_⟩
  refine hb1.trans (Below.mono (B := w1.heap.size) ?_ hb1.size)
  go_grown

end Go.Proofs.YtjoemgniakcjlaaDoor

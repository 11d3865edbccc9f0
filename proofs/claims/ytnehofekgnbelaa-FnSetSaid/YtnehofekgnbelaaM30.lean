/-
  Texts put together: SpCO, SetS.
-/
import Derived.Test.YtnehofekgnbelaaM29
import Derived.Test.YtnehofekgnbelaaM27

/-
  spec.Contains, spec.Overlaps.
-/
namespace Go.Proofs.Ytnehofekgnbelaa
open Go.RowKit
set_option linter.unusedVariables false
set_option maxRecDepth 100000
set_option maxHeartbeats 400000

theorem specContains_any (s0 s1 s2 s3 s : ByteArray) (R : RIn) (b : Ad) (w : World) (h : RTexts s0 s1 s2 s3 R) (hk : ROk R) (hg : RGuard R) (hnum : numOK 128 (cutL 47 (bl s0)).2.1 = true) (hb : readL (bl s) = some b) :
    Calls Try.prog 16 #[.agg #[.string s0, .string s1, .string s2, .string s3], .string s] w (BelowPost w (.bool (okR R && hasB R.a (startOf R) (lastOf R) b))) := by
  have HS := Lib.hid (fun w => spanOf_any s0 s1 s2 s3 R w h hk hg hnum)
  have HR := Lib.hid hb
  have hs := addr_length hb
  clear h hk hg hnum hb
  go_enter Try.func16, Try.ntmps16
  go_wp2_with fail
  refine (HS.out _).mono ?_
  rintro e w1 ⟨net, free, st, en, gw, rfl, hv, hb1⟩
  have HV := Lib.hid hv
  have HB1 := Lib.hid (below_tr ((Below.refl w.heap.size w).alloc (Nat.le_refl _) _) hb1)
  clear hv hb1
  unfold spanv
  go_wp2_with fail
  refine (read_any s _ (by omega)).mono ?_
  rintro e w2 ⟨a, ok, rfl, ha, hn, hb2⟩
  have ha2 : ok = true ∧ a = b := by
    rw [HR.out] at ha
    cases ok with
    | true => rw [if_pos rfl] at ha; exact ⟨rfl, (Option.some.inj ha).symm⟩
    | false => rw [if_neg (by decide)] at ha; cases ha
  obtain ⟨rfl, rfl⟩ := ha2
  have hrow := row_on hb2 (heap_alloc_new _ _)
  have hlt : w1.heap.size < w2.heap.size := (Array.getElem?_eq_some_iff.1 hrow).1
  have HB2 := Lib.hid (below_tr (HB1.out.alloc HB1.out.size _) hb2)
  have g0 : w2.cell? ⟨w1.heap.size, 0, none⟩ = some (.bool net.six) := cell_of_row w2 _ 0 _ _ _ hrow
  have g1 : w2.cell? ⟨w1.heap.size, 1, none⟩ = some (.int .u32 net.n) := cell_of_row w2 _ 1 _ _ _ hrow
  have g2 : w2.cell? ⟨w1.heap.size, 2, none⟩ = some (.int .i64 free) := cell_of_row w2 _ 2 _ _ _ hrow
  have g3 : w2.cell? ⟨w1.heap.size, 3, none⟩ = some (.bool st.six) := cell_of_row w2 _ 3 _ _ _ hrow
  have g4 : w2.cell? ⟨w1.heap.size, 4, none⟩ = some (.int .u32 st.n) := cell_of_row w2 _ 4 _ _ _ hrow
  have g5 : w2.cell? ⟨w1.heap.size, 5, none⟩ = some (.bool en.six) := cell_of_row w2 _ 5 _ _ _ hrow
  have g6 : w2.cell? ⟨w1.heap.size, 6, none⟩ = some (.int .u32 en.n) := cell_of_row w2 _ 6 _ _ _ hrow
  have g7 : w2.cell? ⟨w1.heap.size, 7, none⟩ = some (.bool gw.six) := cell_of_row w2 _ 7 _ _ _ hrow
  have g8 : w2.cell? ⟨w1.heap.size, 8, none⟩ = some (.int .u32 gw.n) := cell_of_row w2 _ 8 _ _ _ hrow
  clear ha hb2 hrow
  unfold adv
  cases hok : okR R with
  | false =>
    have HOK := Lib.hid hok
    clear hok
    go_wp2_with fail
    go_ret
    exact ⟨by rw [HOK.out]; rfl, HB2.out.alloc HB2.out.size _⟩
  | true =>
    have E5 := Lib.hid (And.intro hok (HV.out hok))
    clear hok
    go_wp2_with fail
    refine (has_any net st en gw a free _).mono ?_
    rintro e w3 ⟨rfl, hb3⟩
    have HB3 := Lib.hid (below_tr (HB2.out.alloc HB2.out.size _) hb3)
    clear hb3
    go_wp2_with fail
    go_ret
    refine ⟨?_, HB3.out⟩
    obtain ⟨hok, rfl, rfl, rfl, rfl, rfl⟩ := E5.out
    rw [hok]
    rfl

theorem specOverlaps_any (s0 s1 s2 s3 t0 t1 t2 t3 : ByteArray) (R Q : RIn) (w : World) (h : RTexts s0 s1 s2 s3 R) (hk : ROk R) (hg : RGuard R) (hnum : numOK 128 (cutL 47 (bl s0)).2.1 = true)
    (h' : RTexts t0 t1 t2 t3 Q) (hk' : ROk Q) (hg' : RGuard Q) (hnum' : numOK 128 (cutL 47 (bl t0)).2.1 = true) :
    Calls Try.prog 18 #[.agg #[.string s0, .string s1, .string s2, .string s3], .agg #[.string t0, .string t1, .string t2, .string t3]] w
      (BelowPost w (.bool (okR R && okR Q && meetB R.a (startOf R) (lastOf R) Q.a (startOf Q) (lastOf Q)))) := by
  have HS := Lib.hid (fun w => spanOf_any s0 s1 s2 s3 R w h hk hg hnum)
  have HT := Lib.hid (fun w => spanOf_any t0 t1 t2 t3 Q w h' hk' hg' hnum')
  clear h hk hg hnum h' hk' hg' hnum'
  go_enter Try.func18, Try.ntmps18
  go_wp2_with fail
  refine (HS.out _).mono ?_
  rintro e w1 ⟨net, free, st, en, gw, rfl, hv, hb1⟩
  have HV := Lib.hid hv
  have HB1 := Lib.hid (below_tr (((Below.refl w.heap.size w).alloc (Nat.le_refl _) _).alloc (by simp) _) hb1)
  have hrow := row_on hb1 (heap_alloc_new _ _)
  have hlt : w.heap.size + 1 < w1.heap.size := by have := (Array.getElem?_eq_some_iff.1 hrow).1; simpa using this
  have c0 : w1.cell? ⟨w.heap.size + 1, 0, none⟩ = some (.string t0) := by have := cell_of_row w1 _ 0 _ _ _ hrow; simpa using this
  have c1 : w1.cell? ⟨w.heap.size + 1, 1, none⟩ = some (.string t1) := by have := cell_of_row w1 _ 1 _ _ _ hrow; simpa using this
  have c2 : w1.cell? ⟨w.heap.size + 1, 2, none⟩ = some (.string t2) := by have := cell_of_row w1 _ 2 _ _ _ hrow; simpa using this
  have c3 : w1.cell? ⟨w.heap.size + 1, 3, none⟩ = some (.string t3) := by have := cell_of_row w1 _ 3 _ _ _ hrow; simpa using this
  clear hv hb1 hrow
  unfold spanv
  go_wp2_with fail
  refine (HT.out _).mono ?_
  rintro e w2 ⟨net', free', st', en', gw', rfl, hv', hb2⟩
  have HV' := Lib.hid hv'
  have hrow := row_on hb2 (heap_alloc_new _ _)
  have hlt2 : w1.heap.size < w2.heap.size := (Array.getElem?_eq_some_iff.1 hrow).1
  have HB2 := Lib.hid (below_tr (HB1.out.alloc HB1.out.size _) hb2)
  have g0 : w2.cell? ⟨w1.heap.size, 0, none⟩ = some (.bool net.six) := cell_of_row w2 _ 0 _ _ _ hrow
  have g1 : w2.cell? ⟨w1.heap.size, 1, none⟩ = some (.int .u32 net.n) := cell_of_row w2 _ 1 _ _ _ hrow
  have g2 : w2.cell? ⟨w1.heap.size, 2, none⟩ = some (.int .i64 free) := cell_of_row w2 _ 2 _ _ _ hrow
  have g3 : w2.cell? ⟨w1.heap.size, 3, none⟩ = some (.bool st.six) := cell_of_row w2 _ 3 _ _ _ hrow
  have g4 : w2.cell? ⟨w1.heap.size, 4, none⟩ = some (.int .u32 st.n) := cell_of_row w2 _ 4 _ _ _ hrow
  have g5 : w2.cell? ⟨w1.heap.size, 5, none⟩ = some (.bool en.six) := cell_of_row w2 _ 5 _ _ _ hrow
  have g6 : w2.cell? ⟨w1.heap.size, 6, none⟩ = some (.int .u32 en.n) := cell_of_row w2 _ 6 _ _ _ hrow
  have g7 : w2.cell? ⟨w1.heap.size, 7, none⟩ = some (.bool gw.six) := cell_of_row w2 _ 7 _ _ _ hrow
  have g8 : w2.cell? ⟨w1.heap.size, 8, none⟩ = some (.int .u32 gw.n) := cell_of_row w2 _ 8 _ _ _ hrow
  clear hv' hb2 hrow c0 c1 c2 c3
  unfold spanv
  cases hok : okR R with
  | false =>
    have HOK := Lib.hid hok
    clear hok
    generalize okR Q = q
    cases q <;>
    · go_wp2_with fail
      go_ret
      exact ⟨by rw [HOK.out]; rfl, HB2.out.alloc HB2.out.size _⟩
  | true =>
    have E5 := Lib.hid (And.intro hok (HV.out hok))
    clear hok
    cases hoq : okR Q with
    | false =>
      have HOQ := Lib.hid hoq
      clear hoq
      go_wp2_with fail
      go_ret
      exact ⟨by rw [E5.out.1, HOQ.out]; rfl, HB2.out.alloc HB2.out.size _⟩
    | true =>
      have E6 := Lib.hid (And.intro hoq (HV'.out hoq))
      clear hoq
      go_wp2_with fail
      refine (meet_any net st en gw net' st' en' gw' free free' _).mono ?_
      rintro e w3 ⟨rfl, hb3⟩
      have HB3 := Lib.hid (below_tr (HB2.out.alloc HB2.out.size _) hb3)
      clear hb3
      go_wp2_with fail
      go_ret
      refine ⟨?_, HB3.out⟩
      obtain ⟨hok, rfl, rfl, rfl, rfl, rfl⟩ := E5.out
      obtain ⟨hoq, rfl, rfl, rfl, rfl, rfl⟩ := E6.out
      rw [hok, hoq]
      rfl

end Go.Proofs.Ytnehofekgnbelaa

/-
  spec.setOf, spec.Set.
-/
namespace Go.Proofs.Ytnehofekgnbelaa
open Go.RowKit
set_option linter.unusedVariables false
set_option maxRecDepth 100000
set_option maxHeartbeats 1000000

def spanL (R : RIn) : List Value := [.bool R.a.six, .int .u32 R.a.n, .int .i64 R.free, .bool (startOf R).six, .int .u32 (startOf R).n, .bool (lastOf R).six, .int .u32 (lastOf R).n, .bool (gateOf R).six, .int .u32 (gateOf R).n]
def flatS (Rs : List RIn) : List Value := Rs.flatMap spanL
theorem flatS_length (Rs : List RIn) : (flatS Rs).length = Rs.length * 9 := by
  induction Rs with
  | nil => rfl
  | cons R Rs ih => unfold flatS at ih ⊢; rw [List.flatMap_cons, List.length_append, ih, List.length_cons]; show 9 + _ = _; omega
theorem flatS_at (Rs : List RIn) (j c : Nat) (Q : RIn) (h : Rs[j]? = some Q) (hc : c < 9) : (flatS Rs)[j * 9 + c]? = (spanL Q)[c]? := by
  induction Rs generalizing j with
  | nil => cases h
  | cons R Rs ih =>
    have e : flatS (R :: Rs) = spanL R ++ flatS Rs := rfl
    have hl : (spanL R).length = 9 := rfl
    cases j with
    | zero =>
      obtain rfl : R = Q := by simpa using h
      rw [e, List.getElem?_append_left (by rw [hl]; omega), Nat.zero_mul, Nat.zero_add]
    | succ j =>
      rw [e, List.getElem?_append_right (by rw [hl]; omega), hl, show (j + 1) * 9 + c - 9 = j * 9 + c by omega]
      exact ih j h
/-- Two ranges of a set: of one kind, and apart. -/
def beside (R Q : RIn) : Bool := (Q.a.six == R.a.six) && !meetB R.a (startOf R) (lastOf R) Q.a (startOf Q) (lastOf Q)
def setB : List RIn → List RIn → Bool
  | done, [] => !done.isEmpty
  | done, R :: rest => okR R && done.all (beside R) && setB (done ++ [R]) rest

theorem own_on {w w' : World} {base : Nat} {e : TypeId} {size : Nat} {v : Value} {n : Nat} {xs : List Value} (h : w.ownsRow base e size v n xs) (hb : Below w.heap.size w w') : w'.ownsRow base e size v n xs := by
  refine ⟨h.1, ?_⟩
  rcases h.2 with hn | ⟨g, cap, cur, hv, hbg, hg, rest⟩
  · exact .inl hn
  · exact .inr ⟨g, cap, cur, hv, hbg, row_on hb hg, rest⟩
theorem own_form {w : World} {base : Nat} {e : TypeId} {size : Nat} {v : Value} {n : Nat} {xs : List Value} (h : w.ownsRow base e size v n xs) : ∃ ao cap, v = .slice ao n cap ∧ (0 < n → ∃ g, ao = some ⟨g, 0, none⟩) := by
  rcases h.2 with ⟨rfl, rfl⟩ | ⟨g, cap, cur, hv, _⟩
  · exact ⟨none, 0, rfl, fun h => absurd h (by omega)⟩
  · exact ⟨_, cap, hv, fun _ => ⟨g, rfl⟩⟩
theorem infoSpan : (Try.prog.info? 67).map (fun i => (i.zero, i.size, i.bytes)) = some (some (.agg #[.bool false, .int .u32 0, .int .i64 0, .bool false, .int .u32 0, .bool false, .int .u32 0, .bool false, .int .u32 0]), 9, 40) := by kernel_rfl
theorem span_one (R : RIn) : ∀ u ∈ spanL R, u.oneCell' = true := by
  intro u hu
  simp only [spanL, List.mem_cons, List.not_mem_nil, or_false] at hu
  rcases hu with rfl | rfl | rfl | rfl | rfl | rfl | rfl | rfl | rfl <;> rfl
theorem span_cells (w : World) (R : RIn) : ∀ j u, (spanL R)[j]? = some u → (w.alloc (.cells #[.bool R.a.six, .int .u32 R.a.n, .int .i64 R.free, .bool (startOf R).six, .int .u32 (startOf R).n, .bool (lastOf R).six, .int .u32 (lastOf R).n, .bool (gateOf R).six, .int .u32 (gateOf R).n] 67)).cell? ((⟨w.heap.size, 0, none⟩ : Addr).add j) = some u := by
  intro j u hu
  have h := cell_of_row _ w.heap.size j _ _ _ (heap_alloc_new w (.cells #[.bool R.a.six, .int .u32 R.a.n, .int .i64 R.free, .bool (startOf R).six, .int .u32 (startOf R).n, .bool (lastOf R).six, .int .u32 (lastOf R).n, .bool (gateOf R).six, .int .u32 (gateOf R).n] 67))
  rw [Addr.add_lit, Nat.zero_add, h, ← hu, List.getElem?_toArray]
  rfl

/-- The texts and what they tell. -/
def TxAll (xs : List Tx) (Rs : List RIn) : Prop := Rs.length = xs.length ∧ ∀ (j : Nat) (x : Tx), xs[j]? = some x → ∃ R, Rs[j]? = some R ∧ TxR x R
theorem txAll_of (xs : List Tx) (h : ∀ (j : Nat) (x : Tx), xs[j]? = some x → ∃ R, TxR x R) : ∃ Rs, TxAll xs Rs := by
  induction xs with
  | nil => exact ⟨[], rfl, fun j x hx => by cases hx⟩
  | cons x xs ih =>
    obtain ⟨R, hR⟩ := h 0 x rfl
    obtain ⟨Rs, hl, hRs⟩ := ih (fun j y hy => h (j + 1) y hy)
    refine ⟨R :: Rs, by simp [hl], fun j y hy => ?_⟩
    cases j with
    | zero =>
      obtain rfl : x = y := (by simpa using hy)
      exact ⟨R, rfl, hR⟩
    | succ j => exact hRs j y hy

/-- The outer loop: k ranges are in. -/
structure SetRel (w : World) (Rs : List RIn) (k : Nat) (v : Value) (wr : World) : Prop where
  own : wr.ownsRow w.heap.size 67 9 v k (flatS (Rs.take k))
  below : Below w.heap.size w wr
  same : setB [] Rs = setB (Rs.take k) (Rs.drop k)
/-- The inner loop: the new one's beside the first j. -/
structure InRel (w : World) (Rs : List RIn) (k : Nat) (v : Value) (R : RIn) (B j : Nat) (wi : World) : Prop where
  own : wi.ownsRow w.heap.size 67 9 v k (flatS (Rs.take k))
  below : Below w.heap.size w wi
  row : wi.heap[B]? = some (.cells #[.bool R.a.six, .int .u32 R.a.n, .int .i64 R.free, .bool (startOf R).six, .int .u32 (startOf R).n, .bool (lastOf R).six, .int .u32 (lastOf R).n, .bool (gateOf R).six, .int .u32 (gateOf R).n] 67 (0, 0))
  good : ∀ (t : Nat) (Q : RIn), t < j → (Rs.take k)[t]? = some Q → beside R Q = true
theorem InRel.on {w : World} {Rs : List RIn} {k : Nat} {v : Value} {R : RIn} {B j : Nat} {wi w2 : World} (h : InRel w Rs k v R B j wi) (hb : Below wi.heap.size wi w2) : InRel w Rs k v R B j w2 :=
  ⟨own_on h.own hb, below_tr h.below hb, row_on hb h.row, h.good⟩
theorem InRel.next {w : World} {Rs : List RIn} {k : Nat} {v : Value} {R : RIn} {B j : Nat} {wi : World} (h : InRel w Rs k v R B j wi) {Q : RIn} (hq : (Rs.take k)[j]? = some Q) (hg : beside R Q = true) : InRel w Rs k v R B (j + 1) wi :=
  ⟨h.own, h.below, h.row, fun t P ht hp => by
    by_cases e : t = j
    · subst e; rw [hq] at hp; cases hp; exact hg
    · exact h.good t P (by omega) hp⟩
theorem setB_not {done rest : List RIn} {R Q : RIn} {j : Nat} (hq : done[j]? = some Q) (hg : beside R Q = false) : setB done (R :: rest) = false := by
  unfold setB
  have : done.all (beside R) = false := by
    rw [List.all_eq_false]
    exact ⟨Q, List.mem_of_getElem? hq, by rw [hg]; decide⟩
  rw [this, Bool.and_false, Bool.false_and]
theorem setB_bad {done rest : List RIn} {R : RIn} (h : okR R = false) : setB done (R :: rest) = false := by
  unfold setB; rw [h, Bool.false_and, Bool.false_and]
theorem setB_good {done rest : List RIn} {R : RIn} (h : okR R = true) (hg : ∀ (t : Nat) (Q : RIn), t < done.length → done[t]? = some Q → beside R Q = true) : setB done (R :: rest) = setB (done ++ [R]) rest := by
  have : done.all (beside R) = true := by
    rw [List.all_eq_true]
    intro Q hQ
    obtain ⟨t, ht⟩ := List.getElem?_of_mem hQ
    exact hg t Q (List.getElem?_eq_some_iff.1 ht).1 ht
  rw [setB, h, this, Bool.true_and, Bool.true_and]
theorem drop_at {Rs : List RIn} {k : Nat} {R : RIn} (h : Rs[k]? = some R) : Rs.drop k = R :: Rs.drop (k + 1) := by
  obtain ⟨hk, e⟩ := List.getElem?_eq_some_iff.1 h
  rw [List.drop_eq_getElem_cons hk, e]
theorem take_at1 {Rs : List RIn} {k : Nat} {R : RIn} (h : Rs[k]? = some R) : Rs.take (k + 1) = Rs.take k ++ [R] := by
  rw [List.take_add_one, h]; rfl
theorem SetRel.next {w : World} {Rs : List RIn} {k : Nat} {v v' : Value} {R : RIn} {B : Nat} {wr wi w2 : World} (h : SetRel w Rs k v wr) (hR : Rs[k]? = some R) (ok : okR R = true) (hi : InRel w Rs k v R B k wi) (hn : k ≤ Rs.length)
    (hown : w2.ownsRow w.heap.size 67 9 v' (k + 1) (flatS (Rs.take k) ++ spanL R)) (hb : Below w.heap.size w w2) : SetRel w Rs (k + 1) v' w2 := by
  refine ⟨?_, hb, ?_⟩
  · rw [take_at1 hR]
    have : flatS (Rs.take k ++ [R]) = flatS (Rs.take k) ++ spanL R := by unfold flatS; rw [List.flatMap_append]; simp
    rw [this]
    exact hown
  · rw [h.same, drop_at hR, take_at1 hR]
    exact setB_good ok fun t Q ht hq => hi.good t Q (by simp at ht; omega) hq

def SetPost (w : World) (b : Bool) (e : Ending) (w' : World) : Prop := ∃ v, e = .returned (.tuple #[v, .bool b]) ∧ Below w.heap.size w w'

theorem specSetOf_any (ao : Option Addr) (cap : Nat) (xs : List Tx) (Rs : List RIn) (w : World) (h : RgsV w ao xs) (hx : TxAll xs Rs) (h4 : xs.length ≤ 1000) :
    Calls Try.prog 44 #[.slice ao xs.length cap] w (SetPost w (setB [] Rs)) := by
  have H := Lib.hid h
  have HX := Lib.hid hx
  clear h hx
  obtain ⟨i0, HI', hz⟩ := Option.map_eq_some_iff.1 infoSpan
  simp only [Prod.mk.injEq] at hz
  obtain ⟨hz0, hz1, hz2⟩ := hz
  have HI := Lib.hid HI'
  have HZ0 := Lib.hid hz0
  have HZ1 := Lib.hid hz1
  have HZ2 := Lib.hid hz2
  clear HI' hz0 hz1 hz2
  go_enter Try.func44, Try.ntmps44
  go_wp2_with fail
  go_loopw [4, 14] (fun v i wr => ∃ k : Nat, i = .int .i64 k ∧ k ≤ xs.length ∧ Hid (SetRel w Rs k v wr)) (fun _ i _ => xs.length - (intOf i).toNat)
  case atStart => exact ⟨0, rfl, by omega, Lib.hid ⟨World.ownsRow_lit w #[] 0 (Nat.le_refl _) (by decide) (by rfl), (Below.refl _ _).alloc (Nat.le_refl _) _, rfl⟩⟩
  case round =>
    obtain ⟨k, rfl, hk, hr⟩ := hrel
    obtain ⟨av, cv, rfl, hav⟩ := own_form hr.out.own
    have HAV := Lib.hid hav
    clear hav
    by_cases hlt : k < xs.length
    rotate_left
    · have tk : decide ((k : Int) < xs.length) = false := decide_eq_false (by omega)
      have hend : setB [] Rs = decide (0 < k) := by
        rw [hr.out.same, List.drop_of_length_le (by rw [HX.out.1]; omega), List.take_of_length_le (by rw [HX.out.1]; omega)]
        have : Rs.length = k := by rw [HX.out.1]; omega
        cases Rs with
        | nil => subst this; rfl
        | cons a l => simp only [List.length_cons] at this; rw [decide_eq_true (by omega)]; rfl
      have HEND := Lib.hid hend
      clear hend
      by_cases h0 : 0 < k
      · have t0 : decide ((0 : Int) < k) = true := decide_eq_true (by omega)
        go_wp2_with fail
        go_ret2
        exact ⟨_, by rw [HEND.out, decide_eq_true h0]; rfl, hr.out.below⟩
      · have t0 : decide ((0 : Int) < k) = false := decide_eq_false (by omega)
        go_wp2_with fail
        go_ret2
        exact ⟨_, by rw [HEND.out, decide_eq_false h0]; rfl, hr.out.below⟩
    have tk : decide ((k : Int) < xs.length) = true := decide_eq_true (by omega)
    have hx : xs[k]? = some xs[k] := List.getElem?_eq_getElem hlt
    obtain ⟨R, hR, htx⟩ := HX.out.2 k _ hx
    obtain ⟨b, off, rfl, hbl, c0, c1, c2, c3⟩ := H.out.on hr.out.below k _ hx
    clear hx
    generalize xs[k] = x at *
    have HR := Lib.hid hR
    have HS := Lib.hid (fun w => spanOf_any x.a x.b x.c x.d R w htx.1 htx.2.1 htx.2.2.1 htx.2.2.2)
    have hkn : k < Rs.length := (List.getElem?_eq_some_iff.1 hR).1
    clear hR htx
    go_wp2_with fail
    refine (HS.out _).mono ?_
    rintro e w2 ⟨net, free, st, en, gw, rfl, hv, hb2⟩
    have hbw := below_tr ((Below.refl wr.heap.size wr).alloc (Nat.le_refl _) _) hb2
    have HO2 := Lib.hid (own_on hr.out.own hbw)
    have HB2 := Lib.hid (below_tr hr.out.below hbw)
    clear hb2 hbw c0 c1 c2 c3 HS
    unfold spanv
    cases hok : okR R with
    | false =>
      have HF := Lib.hid (show setB [] Rs = false from by rw [hr.out.same, drop_at HR.out]; exact setB_bad hok)
      clear hok hv
      go_wp2_with fail
      go_ret2
      exact ⟨_, by rw [HF.out]; rfl, HB2.out.alloc HB2.out.size _⟩
    | true =>
      obtain ⟨rfl, rfl, rfl, rfl, rfl⟩ := hv hok
      have HOK := Lib.hid hok
      clear hok hv
      go_wp2_with fail
      have HIN := Lib.hid (show InRel w Rs k (.slice av k cv) R w2.heap.size 0 _ from InRel.mk (own_on HO2.out ((Below.refl _ _).alloc (Nat.le_refl _) _)) (HB2.out.alloc HB2.out.size _) (heap_alloc_new w2 (.cells #[.bool R.a.six, .int .u32 R.a.n, .int .i64 R.free, .bool (startOf R).six, .int .u32 (startOf R).n, .bool (lastOf R).six, .int .u32 (lastOf R).n, .bool (gateOf R).six, .int .u32 (gateOf R).n] 67)) (fun t Q ht => absurd ht (by omega)))
      go_loopw [27] (fun i wi => ∃ j : Nat, i = .int .i64 j ∧ j ≤ k ∧ Hid (InRel w Rs k (.slice av k cv) R w2.heap.size j wi)) (fun i _ => k - (intOf i).toNat)
      case atStart => exact ⟨0, rfl, by omega, HIN⟩
      case round =>
        obtain ⟨j, rfl, hj, hi⟩ := hrel
        have hrow := hi.out.row
        have s0 : wr.cell? ⟨w2.heap.size, 0, none⟩ = some (.bool R.a.six) := cell_of_row wr _ 0 _ _ _ hrow
        have s1 : wr.cell? ⟨w2.heap.size, 1, none⟩ = some (.int .u32 R.a.n) := cell_of_row wr _ 1 _ _ _ hrow
        have s2 : wr.cell? ⟨w2.heap.size, 2, none⟩ = some (.int .i64 R.free) := cell_of_row wr _ 2 _ _ _ hrow
        have s3 : wr.cell? ⟨w2.heap.size, 3, none⟩ = some (.bool (startOf R).six) := cell_of_row wr _ 3 _ _ _ hrow
        have s4 : wr.cell? ⟨w2.heap.size, 4, none⟩ = some (.int .u32 (startOf R).n) := cell_of_row wr _ 4 _ _ _ hrow
        have s5 : wr.cell? ⟨w2.heap.size, 5, none⟩ = some (.bool (lastOf R).six) := cell_of_row wr _ 5 _ _ _ hrow
        have s6 : wr.cell? ⟨w2.heap.size, 6, none⟩ = some (.int .u32 (lastOf R).n) := cell_of_row wr _ 6 _ _ _ hrow
        have s7 : wr.cell? ⟨w2.heap.size, 7, none⟩ = some (.bool (gateOf R).six) := cell_of_row wr _ 7 _ _ _ hrow
        have s8 : wr.cell? ⟨w2.heap.size, 8, none⟩ = some (.int .u32 (gateOf R).n) := cell_of_row wr _ 8 _ _ _ hrow
        have sz : w2.heap.size < wr.heap.size := (Array.getElem?_eq_some_iff.1 hrow).1
        clear hrow
        by_cases hjk : j < k
        · have tj : decide ((j : Int) < k) = true := decide_eq_true (by omega)
          obtain ⟨g, rfl⟩ := HAV.out (by omega)
          have hq : (Rs.take k)[j]? = some Rs[j] := by rw [List.getElem?_take, if_pos hjk, List.getElem?_eq_getElem]
          generalize Rs[j] = Q at hq
          have hl : ∀ c, c < 9 → wr.cell? ⟨g, j * 9 + c, none⟩ = (spanL Q)[c]? := fun c hc => (hi.out.own.cellAt (j * 9 + c) (by omega)).trans (flatS_at _ _ _ _ hq hc)
          have q0 : wr.cell? ⟨g, j * 9, none⟩ = some (.bool Q.a.six) := hl 0 (by decide)
          have q1 : wr.cell? ⟨g, j * 9 + 1, none⟩ = some (.int .u32 Q.a.n) := hl 1 (by decide)
          have q2 : wr.cell? ⟨g, j * 9 + 2, none⟩ = some (.int .i64 Q.free) := hl 2 (by decide)
          have q3 : wr.cell? ⟨g, j * 9 + 3, none⟩ = some (.bool (startOf Q).six) := hl 3 (by decide)
          have q4 : wr.cell? ⟨g, j * 9 + 4, none⟩ = some (.int .u32 (startOf Q).n) := hl 4 (by decide)
          have q5 : wr.cell? ⟨g, j * 9 + 5, none⟩ = some (.bool (lastOf Q).six) := hl 5 (by decide)
          have q6 : wr.cell? ⟨g, j * 9 + 6, none⟩ = some (.int .u32 (lastOf Q).n) := hl 6 (by decide)
          have q7 : wr.cell? ⟨g, j * 9 + 7, none⟩ = some (.bool (gateOf Q).six) := hl 7 (by decide)
          have q8 : wr.cell? ⟨g, j * 9 + 8, none⟩ = some (.int .u32 (gateOf Q).n) := hl 8 (by decide)
          have gz : g < wr.heap.size := World.block_lt_of_cell? wr _ q0
          have HQ := Lib.hid hq
          clear hl hq
          obtain ⟨x6, e6⟩ : ∃ x : Bool, x = Q.a.six := ⟨_, rfl⟩
          obtain ⟨y6, f6⟩ : ∃ x : Bool, x = R.a.six := ⟨_, rfl⟩
          rw [← e6] at q0
          rw [← f6] at s0
          obtain ⟨mb, em⟩ : ∃ x : Bool, x = meetB R.a (startOf R) (lastOf R) Q.a (startOf Q) (lastOf Q) := ⟨_, rfl⟩
          have HM := Lib.hid (show ∀ w, Calls Try.prog 41 #[.agg #[.bool y6, .int .u32 R.a.n, .int .i64 R.free, .bool (startOf R).six, .int .u32 (startOf R).n, .bool (lastOf R).six, .int .u32 (lastOf R).n, .bool (gateOf R).six, .int .u32 (gateOf R).n], .agg #[.bool x6, .int .u32 Q.a.n, .int .i64 Q.free, .bool (startOf Q).six, .int .u32 (startOf Q).n, .bool (lastOf Q).six, .int .u32 (lastOf Q).n, .bool (gateOf Q).six, .int .u32 (gateOf Q).n]] w (BelowPost w (.bool mb)) from fun w => by
            rw [e6, f6, em]
            exact meet_any R.a (startOf R) (lastOf R) (gateOf R) Q.a (startOf Q) (lastOf Q) (gateOf Q) R.free Q.free w)
          have HBS := Lib.hid (show beside R Q = ((x6 == y6) && !mb) from by rw [e6, f6, em]; rfl)
          clear e6 f6 em
          cases x6 with
          | true =>
            cases y6 with
            | true =>
              go_wp2_with fail
              refine (HM.out _).mono ?_
              rintro e w4 ⟨rfl, hb4⟩
              have HI4 := Lib.hid (hi.out.on (below_tr ((Below.refl wr.heap.size wr).alloc (Nat.le_refl _) _) hb4))
              clear hb4 q0 q1 q2 q3 q4 q5 q6 q7 q8 s0 s1 s2 s3 s4 s5 s6 s7 s8 HM
              cases mb with
              | true =>
                have HF := Lib.hid (show setB [] Rs = false from by
                  rw [hr.out.same, drop_at HR.out]
                  exact setB_not HQ.out (by rw [HBS.out]; rfl))
                go_wp2_with fail
                go_ret2
                exact ⟨_, by rw [HF.out]; rfl, HI4.out.below⟩
              | false =>
                have HN := Lib.hid (HI4.out.next HQ.out (show beside R Q = true from by rw [HBS.out]; rfl))
                go_wp2_with fail
                go_roundw
                case rel => exact ⟨j + 1, by simp, by omega, HN⟩
                case measure => simp [intOf]; omega
            | false =>
              have HF := Lib.hid (show setB [] Rs = false from by
                rw [hr.out.same, drop_at HR.out]
                exact setB_not HQ.out (by rw [HBS.out]; rfl))
              go_wp2_with fail
              go_ret2
              exact ⟨_, by rw [HF.out]; rfl, hi.out.below.alloc hi.out.below.size _⟩
          | false =>
            cases y6 with
            | true =>
              have HF := Lib.hid (show setB [] Rs = false from by
                rw [hr.out.same, drop_at HR.out]
                exact setB_not HQ.out (by rw [HBS.out]; rfl))
              go_wp2_with fail
              go_ret2
              exact ⟨_, by rw [HF.out]; rfl, hi.out.below.alloc hi.out.below.size _⟩
            | false =>
              go_wp2_with fail
              refine (HM.out _).mono ?_
              rintro e w4 ⟨rfl, hb4⟩
              have HI4 := Lib.hid (hi.out.on (below_tr ((Below.refl wr.heap.size wr).alloc (Nat.le_refl _) _) hb4))
              clear hb4 q0 q1 q2 q3 q4 q5 q6 q7 q8 s0 s1 s2 s3 s4 s5 s6 s7 s8 HM
              cases mb with
              | true =>
                have HF := Lib.hid (show setB [] Rs = false from by
                  rw [hr.out.same, drop_at HR.out]
                  exact setB_not HQ.out (by rw [HBS.out]; rfl))
                go_wp2_with fail
                go_ret2
                exact ⟨_, by rw [HF.out]; rfl, HI4.out.below⟩
              | false =>
                have HN := Lib.hid (HI4.out.next HQ.out (show beside R Q = true from by rw [HBS.out]; rfl))
                go_wp2_with fail
                go_roundw
                case rel => exact ⟨j + 1, by simp, by omega, HN⟩
                case measure => simp [intOf]; omega
        · have tj : decide ((j : Int) < k) = false := decide_eq_false (by omega)
          obtain rfl : j = k := by omega
          go_wp2_with (focus (at_builtin; go_must (refine wpList_append_own _ rfl _ _ 78 rfl w.heap.size 67 i0 (.agg #[.bool false, .int .u32 0, .int .i64 0, .bool false, .int .u32 0, .bool false, .int .u32 0, .bool false, .int .u32 0]) 9 40 Try.underlying78 HI.out HZ0.out HZ1.out HZ2.out (by rfl) (by decide) _ j (flatS (Rs.take j)) rfl (own_on hi.out.own ((Below.refl _ _).alloc (Nat.le_refl _) _)) ⟨wr.heap.size, 0, none⟩ 1 1 (spanL R) rfl rfl (span_cells wr R) (span_one R) (by unfold maxLen; omega) (by omega) (by have := hi.out.below.size; simp; omega) ?_)))
          intro v' w' hown hg _
          have HN := Lib.hid (hr.out.next HR.out HOK.out hi.out (by omega) hown ((hi.out.below.alloc hi.out.below.size _).grown hg (by have := hi.out.below.size; simp; omega) (fun q hq => (hi.out.own.lt q hq).1)))
          clear hown hg
          go_wp2_with fail
          go_roundw
          case rel => exact ⟨j + 1, by simp, by omega, HN⟩
          case measure => simp [intOf]; omega

theorem specSet_any (ao : Option Addr) (cap : Nat) (xs : List Tx) (Rs : List RIn) (w : World) (h : RgsV w ao xs) (hx : TxAll xs Rs) (h4 : xs.length ≤ 1000) :
    Calls Try.prog 23 #[.slice ao xs.length cap] w (BelowPost w (.bool (setB [] Rs))) := by
  have HS := Lib.hid (specSetOf_any ao cap xs Rs w h hx h4)
  clear h hx
  go_enter Try.func23, Try.ntmps23
  go_wp2_with fail
  refine HS.out.mono ?_
  rintro e w1 ⟨v, rfl, hb⟩
  have HB := Lib.hid hb
  clear hb
  go_wp2_with fail
  go_ret
  exact ⟨rfl, HB.out⟩

end Go.Proofs.Ytnehofekgnbelaa

/-
  Texts put together: LawCO, SetP, LawSet.
-/
import Derived.Test.YtnehofekgnbelaaM30
import Derived.Test.YtnehofekgnbelaaM26
import Derived.Test.YtnehofekgnbelaaM11
import Derived.Test.YtnehofekgnbelaaM31

/-
  laws.FnContains and laws.FnOverlaps return true.
-/
namespace Go.Proofs.Ytnehofekgnbelaa
open Go.RowKit
set_option linter.unusedVariables false
set_option maxRecDepth 100000
set_option maxHeartbeats 2000000

instance kinMet (w : World) : Nonempty (Kin w) := ⟨⟨w, Below.refl w.heap.size w⟩⟩

theorem meetB_comm (n s e n' s' e' : Ad) : meetB n s e n' s' e' = meetB n' s' e' n s e := by
  unfold meetB
  rw [Bool.eq_iff_iff]
  simp only [Bool.and_eq_true, decide_eq_true_eq, beq_iff_eq]
  constructor <;> (rintro ⟨⟨h1, h2⟩, h3⟩; exact ⟨⟨h1.symm, h3⟩, h2⟩)
theorem contains_same {R : RIn} (hg : RGuard R) (b : Ad) : (okR R && contR R b) = (okR R && hasB R.a (startOf R) (lastOf R) b) := by
  cases h : okR R with
  | false => rfl
  | true => rw [contR_law hg h b]
theorem overlaps_same {R Q : RIn} (hg : RGuard R) (hg' : RGuard Q) : (okR R && okR Q && ovrR R Q) = (okR R && okR Q && meetB R.a (startOf R) (lastOf R) Q.a (startOf Q) (lastOf Q)) := by
  cases h : okR R with
  | false => rfl
  | true =>
    cases h' : okR Q with
    | false => rfl
    | true => rw [ovrR_law hg h hg' h']
theorem overlaps_turned {R Q : RIn} (hg : RGuard R) (hg' : RGuard Q) : (okR Q && okR R && ovrR Q R) = (okR R && okR Q && meetB R.a (startOf R) (lastOf R) Q.a (startOf Q) (lastOf Q)) := by
  rw [overlaps_same hg' hg, meetB_comm, Bool.and_comm (okR Q)]

theorem lawContains (s0 s1 s2 s3 s : ByteArray) (w : World) :
    Calls Try.prog 5 #[.agg #[.string s0, .string s1, .string s2, .string s3], .string s] w (LawPost w) := by
  go_enter Try.func5, Try.ntmps5
  go_wp2_with fail
  refine (fits1_any s0 s1 s2 s3 _).mono ?_
  rintro e w1 ⟨ok, rfl, hf, hb1⟩
  have HB1 := Lib.hid (below_tr (Below.refl (w.alloc (.cells #[.string s0, .string s1, .string s2, .string s3] 32)).heap.size (w.alloc (.cells #[.string s0, .string s1, .string s2, .string s3] 32))) hb1)
  have hr := nz5_old' HB1.out
  have c0 : w1.cell? ⟨w.heap.size, 0, none⟩ = some (.string s0) := cell_of_row w1 _ 0 _ _ _ hr.1
  have c1 : w1.cell? ⟨w.heap.size, 1, none⟩ = some (.string s1) := cell_of_row w1 _ 1 _ _ _ hr.1
  have c2 : w1.cell? ⟨w.heap.size, 2, none⟩ = some (.string s2) := cell_of_row w1 _ 2 _ _ _ hr.1
  have c3 : w1.cell? ⟨w.heap.size, 3, none⟩ = some (.string s3) := cell_of_row w1 _ 3 _ _ _ hr.1
  have cz : w.heap.size < w1.heap.size := (Array.getElem?_eq_some_iff.1 hr.1).1
  clear hr hb1
  cases ok with
  | false =>
    clear hf
    go_wp2_with fail
    go_ret
    exact ⟨rfl, (nz5_old' HB1.out).2⟩
  | true =>
    obtain ⟨z0, z1, z2, z3⟩ := hf rfl
    clear hf
    by_cases hs : s.size ≤ 2147483647
    rotate_left
    · have tt : decide ((2147483647 : Int) < s.size) = true := decide_eq_true (by omega)
      go_wp2_with fail
      go_ret
      exact ⟨rfl, (nz5_old' HB1.out).2⟩
    have tt : decide ((2147483647 : Int) < s.size) = false := decide_eq_false (by omega)
    go_wp2_with fail
    refine (isRange_any s0 s1 s2 s3 _ z0 z1 z2 z3).mono ?_
    rintro e w2 ⟨ok, rfl, hR, hb2⟩
    clear c0 c1 c2 c3 cz
    have HB2 := Lib.hid (below_tr HB1.out hb2)
    have hr := nz5_old' HB2.out
    have c0 : w2.cell? ⟨w.heap.size, 0, none⟩ = some (.string s0) := cell_of_row w2 _ 0 _ _ _ hr.1
    have c1 : w2.cell? ⟨w.heap.size, 1, none⟩ = some (.string s1) := cell_of_row w2 _ 1 _ _ _ hr.1
    have c2 : w2.cell? ⟨w.heap.size, 2, none⟩ = some (.string s2) := cell_of_row w2 _ 2 _ _ _ hr.1
    have c3 : w2.cell? ⟨w.heap.size, 3, none⟩ = some (.string s3) := cell_of_row w2 _ 3 _ _ _ hr.1
    have cz : w.heap.size < w2.heap.size := (Array.getElem?_eq_some_iff.1 hr.1).1
    clear hr hb2
    cases ok with
    | false =>
      clear hR
      go_wp2_with fail
      go_ret
      exact ⟨rfl, (nz5_old' HB2.out).2⟩
    | true =>
      obtain ⟨R, h1, h2, h3, h4⟩ := hR rfl
      clear hR
      by_cases ha : isAddr (bl s) = true
      rotate_left
      · have ha' : isAddr (bl s) = false := by simpa using ha
        have HA := Lib.hid (fun w => isAddress_any s w hs)
        rw [ha'] at HA
        clear ha ha' h1 h2 h3 h4
        go_wp2_with fail
        refine (HA.out _).mono ?_
        rintro e w3 ⟨rfl, hb3⟩
        clear c0 c1 c2 c3 cz
        have HB3 := Lib.hid (below_tr HB2.out hb3)
        have hr := nz5_old' HB3.out
        have c0 : w3.cell? ⟨w.heap.size, 0, none⟩ = some (.string s0) := cell_of_row w3 _ 0 _ _ _ hr.1
        have c1 : w3.cell? ⟨w.heap.size, 1, none⟩ = some (.string s1) := cell_of_row w3 _ 1 _ _ _ hr.1
        have c2 : w3.cell? ⟨w.heap.size, 2, none⟩ = some (.string s2) := cell_of_row w3 _ 2 _ _ _ hr.1
        have c3 : w3.cell? ⟨w.heap.size, 3, none⟩ = some (.string s3) := cell_of_row w3 _ 3 _ _ _ hr.1
        have cz : w.heap.size < w3.heap.size := (Array.getElem?_eq_some_iff.1 hr.1).1
        clear hr hb3
        go_wp2_with fail
        go_ret
        exact ⟨rfl, (nz5_old' HB3.out).2⟩
      have HA := Lib.hid (fun w => isAddress_any s w hs)
      rw [ha] at HA
      obtain ⟨b, eb⟩ := Option.isSome_iff_exists.1 ha
      obtain ⟨c, hc⟩ : ∃ c : Bool, c = (okR R && hasB R.a (startOf R) (lastOf R) b) := ⟨_, rfl⟩
      have HI := Lib.hid (show ∀ w, Calls Try.prog 15 #[.agg #[.string s0, .string s1, .string s2, .string s3], .string s] w (BelowPost w (.bool c)) from fun w => by
        rw [hc, ← contains_same h3 b]; exact implContains_any s0 s1 s2 s3 s R b w h1 h2 eb)
      have HSC := Lib.hid (show ∀ w, Calls Try.prog 16 #[.agg #[.string s0, .string s1, .string s2, .string s3], .string s] w (BelowPost w (.bool c)) from fun w => by
        rw [hc]; exact specContains_any s0 s1 s2 s3 s R b w h1 h2 h3 h4 eb)
      have HP := Lib.hid lawPlain_any
      have HPC := Lib.hid (show ∀ w, Calls Try.prog 15 #[plainV, .string ⟨#[49, 48, 46, 48, 46, 48, 46, 50]⟩] w (BelowPost w (.bool true)) from fun w => by
        have := implContains_any ⟨#[49, 48, 46, 48, 46, 48, 46, 48, 47, 51, 48]⟩ ⟨#[]⟩ ⟨#[]⟩ ⟨#[]⟩ ⟨#[49, 48, 46, 48, 46, 48, 46, 50]⟩ plainR ⟨false, 167772162⟩ w plain_texts plain_rok (by decide +kernel)
        rw [plain_ok, plain_two] at this
        exact this)
      clear ha eb hc h1 h2 h3 h4 z0 z1 z2 z3 hs
      unfold plainV at HP HPC
      go_wp2_with fail
      refine (HA.out _).mono ?_
      rintro e w3 ⟨rfl, hb3⟩
      clear c0 c1 c2 c3 cz
      have HB3 := Lib.hid (below_tr HB2.out hb3)
      have hr := nz5_old' HB3.out
      have c0 : w3.cell? ⟨w.heap.size, 0, none⟩ = some (.string s0) := cell_of_row w3 _ 0 _ _ _ hr.1
      have c1 : w3.cell? ⟨w.heap.size, 1, none⟩ = some (.string s1) := cell_of_row w3 _ 1 _ _ _ hr.1
      have c2 : w3.cell? ⟨w.heap.size, 2, none⟩ = some (.string s2) := cell_of_row w3 _ 2 _ _ _ hr.1
      have c3 : w3.cell? ⟨w.heap.size, 3, none⟩ = some (.string s3) := cell_of_row w3 _ 3 _ _ _ hr.1
      have cz : w.heap.size < w3.heap.size := (Array.getElem?_eq_some_iff.1 hr.1).1
      clear hr hb3
      cases c <;>
      · go_wp2_with fail
        have k0 : ∀ x : Kin w3, x.on.cell? ⟨w.heap.size, 0, none⟩ = some (.string s0) := kin_cell c0
        have k1 : ∀ x : Kin w3, x.on.cell? ⟨w.heap.size, 1, none⟩ = some (.string s1) := kin_cell c1
        have k2 : ∀ x : Kin w3, x.on.cell? ⟨w.heap.size, 2, none⟩ = some (.string s2) := kin_cell c2
        have k3 : ∀ x : Kin w3, x.on.cell? ⟨w.heap.size, 3, none⟩ = some (.string s3) := kin_cell c3
        refine kin_region (by kernel_rfl) (by kernel_rfl) ?_
        repeat (go_big_quiet_step (first
          | (go_at_call_of 15 (Value.string s); exact kin_call (fun _ _ h => h) (HI.out _))
          | (go_at_call 16; exact kin_call (fun _ _ h => h) (HSC.out _))
          | (go_at_call 17; exact kin_call (fun _ _ h => h) (HP.out _))
          | (go_at_call 15; exact kin_call (fun _ _ h => h) (HPC.out _))))
        refine wpQuiet_nil ?_
        intro _ hw'
        obtain ⟨x, rfl⟩ := hw'
        go_wp2_with fail
        go_ret
        exact ⟨rfl, (nz5_old' (below_tr HB3.out x.ok)).2⟩

theorem lawOverlaps (s0 s1 s2 s3 t0 t1 t2 t3 : ByteArray) (w : World) :
    Calls Try.prog 6 #[.agg #[.string s0, .string s1, .string s2, .string s3], .agg #[.string t0, .string t1, .string t2, .string t3]] w (LawPost w) := by
  go_enter Try.func6, Try.ntmps6
  go_wp2_with fail
  refine (fits1_any s0 s1 s2 s3 _).mono ?_
  rintro e w1 ⟨ok, rfl, hf, hb1⟩
  have HB1 := Lib.hid (below_tr (Below.refl ((w.alloc (.cells #[.string s0, .string s1, .string s2, .string s3] 32)).alloc (.cells #[.string t0, .string t1, .string t2, .string t3] 32)).heap.size ((w.alloc (.cells #[.string s0, .string s1, .string s2, .string s3] 32)).alloc (.cells #[.string t0, .string t1, .string t2, .string t3] 32))) hb1)
  have hr := two_kept' HB1.out
  have c0 : w1.cell? ⟨w.heap.size, 0, none⟩ = some (.string s0) := cell_of_row w1 _ 0 _ _ _ hr.1
  have c1 : w1.cell? ⟨w.heap.size, 1, none⟩ = some (.string s1) := cell_of_row w1 _ 1 _ _ _ hr.1
  have c2 : w1.cell? ⟨w.heap.size, 2, none⟩ = some (.string s2) := cell_of_row w1 _ 2 _ _ _ hr.1
  have c3 : w1.cell? ⟨w.heap.size, 3, none⟩ = some (.string s3) := cell_of_row w1 _ 3 _ _ _ hr.1
  have d0 : w1.cell? ⟨w.heap.size + 1, 0, none⟩ = some (.string t0) := cell_of_row w1 _ 0 _ _ _ hr.2.1
  have d1 : w1.cell? ⟨w.heap.size + 1, 1, none⟩ = some (.string t1) := cell_of_row w1 _ 1 _ _ _ hr.2.1
  have d2 : w1.cell? ⟨w.heap.size + 1, 2, none⟩ = some (.string t2) := cell_of_row w1 _ 2 _ _ _ hr.2.1
  have d3 : w1.cell? ⟨w.heap.size + 1, 3, none⟩ = some (.string t3) := cell_of_row w1 _ 3 _ _ _ hr.2.1
  have cz : w.heap.size + 1 < w1.heap.size := (Array.getElem?_eq_some_iff.1 hr.2.1).1
  clear hr hb1
  cases ok with
  | false =>
    clear hf
    go_wp2_with fail
    go_ret
    exact ⟨rfl, (two_kept' HB1.out).2.2⟩
  | true =>
    obtain ⟨z0, z1, z2, z3⟩ := hf rfl
    clear hf
    go_wp2_with fail
    refine (fits1_any t0 t1 t2 t3 _).mono ?_
    rintro e w2 ⟨ok, rfl, hf, hb2⟩
    clear c0 c1 c2 c3 d0 d1 d2 d3 cz
    have HB2 := Lib.hid (below_tr HB1.out hb2)
    have hr := two_kept' HB2.out
    have c0 : w2.cell? ⟨w.heap.size, 0, none⟩ = some (.string s0) := cell_of_row w2 _ 0 _ _ _ hr.1
    have c1 : w2.cell? ⟨w.heap.size, 1, none⟩ = some (.string s1) := cell_of_row w2 _ 1 _ _ _ hr.1
    have c2 : w2.cell? ⟨w.heap.size, 2, none⟩ = some (.string s2) := cell_of_row w2 _ 2 _ _ _ hr.1
    have c3 : w2.cell? ⟨w.heap.size, 3, none⟩ = some (.string s3) := cell_of_row w2 _ 3 _ _ _ hr.1
    have d0 : w2.cell? ⟨w.heap.size + 1, 0, none⟩ = some (.string t0) := cell_of_row w2 _ 0 _ _ _ hr.2.1
    have d1 : w2.cell? ⟨w.heap.size + 1, 1, none⟩ = some (.string t1) := cell_of_row w2 _ 1 _ _ _ hr.2.1
    have d2 : w2.cell? ⟨w.heap.size + 1, 2, none⟩ = some (.string t2) := cell_of_row w2 _ 2 _ _ _ hr.2.1
    have d3 : w2.cell? ⟨w.heap.size + 1, 3, none⟩ = some (.string t3) := cell_of_row w2 _ 3 _ _ _ hr.2.1
    have cz : w.heap.size + 1 < w2.heap.size := (Array.getElem?_eq_some_iff.1 hr.2.1).1
    clear hr hb2
    cases ok with
    | false =>
      clear hf
      go_wp2_with fail
      go_ret
      exact ⟨rfl, (two_kept' HB2.out).2.2⟩
    | true =>
      obtain ⟨y0, y1, y2, y3⟩ := hf rfl
      clear hf
      go_wp2_with fail
      refine (isRange_any s0 s1 s2 s3 _ z0 z1 z2 z3).mono ?_
      rintro e w3 ⟨ok, rfl, hR, hb3⟩
      clear c0 c1 c2 c3 d0 d1 d2 d3 cz
      have HB3 := Lib.hid (below_tr HB2.out hb3)
      have hr := two_kept' HB3.out
      have c0 : w3.cell? ⟨w.heap.size, 0, none⟩ = some (.string s0) := cell_of_row w3 _ 0 _ _ _ hr.1
      have c1 : w3.cell? ⟨w.heap.size, 1, none⟩ = some (.string s1) := cell_of_row w3 _ 1 _ _ _ hr.1
      have c2 : w3.cell? ⟨w.heap.size, 2, none⟩ = some (.string s2) := cell_of_row w3 _ 2 _ _ _ hr.1
      have c3 : w3.cell? ⟨w.heap.size, 3, none⟩ = some (.string s3) := cell_of_row w3 _ 3 _ _ _ hr.1
      have d0 : w3.cell? ⟨w.heap.size + 1, 0, none⟩ = some (.string t0) := cell_of_row w3 _ 0 _ _ _ hr.2.1
      have d1 : w3.cell? ⟨w.heap.size + 1, 1, none⟩ = some (.string t1) := cell_of_row w3 _ 1 _ _ _ hr.2.1
      have d2 : w3.cell? ⟨w.heap.size + 1, 2, none⟩ = some (.string t2) := cell_of_row w3 _ 2 _ _ _ hr.2.1
      have d3 : w3.cell? ⟨w.heap.size + 1, 3, none⟩ = some (.string t3) := cell_of_row w3 _ 3 _ _ _ hr.2.1
      have cz : w.heap.size + 1 < w3.heap.size := (Array.getElem?_eq_some_iff.1 hr.2.1).1
      clear hr hb3
      cases ok with
      | false =>
        clear hR
        go_wp2_with fail
        go_ret
        exact ⟨rfl, (two_kept' HB3.out).2.2⟩
      | true =>
        obtain ⟨R, h1, h2, h3, h4⟩ := hR rfl
        clear hR
        go_wp2_with fail
        refine (isRange_any t0 t1 t2 t3 _ y0 y1 y2 y3).mono ?_
        rintro e w4 ⟨ok, rfl, hQ, hb4⟩
        clear c0 c1 c2 c3 d0 d1 d2 d3 cz
        have HB4 := Lib.hid (below_tr HB3.out hb4)
        have hr := two_kept' HB4.out
        have c0 : w4.cell? ⟨w.heap.size, 0, none⟩ = some (.string s0) := cell_of_row w4 _ 0 _ _ _ hr.1
        have c1 : w4.cell? ⟨w.heap.size, 1, none⟩ = some (.string s1) := cell_of_row w4 _ 1 _ _ _ hr.1
        have c2 : w4.cell? ⟨w.heap.size, 2, none⟩ = some (.string s2) := cell_of_row w4 _ 2 _ _ _ hr.1
        have c3 : w4.cell? ⟨w.heap.size, 3, none⟩ = some (.string s3) := cell_of_row w4 _ 3 _ _ _ hr.1
        have d0 : w4.cell? ⟨w.heap.size + 1, 0, none⟩ = some (.string t0) := cell_of_row w4 _ 0 _ _ _ hr.2.1
        have d1 : w4.cell? ⟨w.heap.size + 1, 1, none⟩ = some (.string t1) := cell_of_row w4 _ 1 _ _ _ hr.2.1
        have d2 : w4.cell? ⟨w.heap.size + 1, 2, none⟩ = some (.string t2) := cell_of_row w4 _ 2 _ _ _ hr.2.1
        have d3 : w4.cell? ⟨w.heap.size + 1, 3, none⟩ = some (.string t3) := cell_of_row w4 _ 3 _ _ _ hr.2.1
        have cz : w.heap.size + 1 < w4.heap.size := (Array.getElem?_eq_some_iff.1 hr.2.1).1
        clear hr hb4
        cases ok with
        | false =>
          clear hQ
          go_wp2_with fail
          go_ret
          exact ⟨rfl, (two_kept' HB4.out).2.2⟩
        | true =>
          obtain ⟨Q, g1, g2, g3, g4⟩ := hQ rfl
          clear hQ
          obtain ⟨c, hc⟩ : ∃ c : Bool, c = (okR R && okR Q && meetB R.a (startOf R) (lastOf R) Q.a (startOf Q) (lastOf Q)) := ⟨_, rfl⟩
          have HSO := Lib.hid (show ∀ w, Calls Try.prog 18 #[.agg #[.string s0, .string s1, .string s2, .string s3], .agg #[.string t0, .string t1, .string t2, .string t3]] w (BelowPost w (.bool c)) from fun w => by
            rw [hc]; exact specOverlaps_any s0 s1 s2 s3 t0 t1 t2 t3 R Q w h1 h2 h3 h4 g1 g2 g3 g4)
          have HI := Lib.hid (show ∀ w, Calls Try.prog 19 #[.agg #[.string s0, .string s1, .string s2, .string s3], .agg #[.string t0, .string t1, .string t2, .string t3]] w (BelowPost w (.bool c)) from fun w => by
            rw [hc, ← overlaps_same h3 g3]; exact implOverlaps_any s0 s1 s2 s3 t0 t1 t2 t3 R Q w h1 h2 g1 g2)
          have HJ := Lib.hid (show ∀ w, Calls Try.prog 19 #[.agg #[.string t0, .string t1, .string t2, .string t3], .agg #[.string s0, .string s1, .string s2, .string s3]] w (BelowPost w (.bool c)) from fun w => by
            rw [hc, ← overlaps_turned h3 g3]; exact implOverlaps_any t0 t1 t2 t3 s0 s1 s2 s3 Q R w g1 g2 h1 h2)
          have HP := Lib.hid lawPlain_any
          have HPP := Lib.hid (show ∀ w, Calls Try.prog 19 #[plainV, plainV] w (BelowPost w (.bool true)) from fun w => by
            have := implOverlaps_any ⟨#[49, 48, 46, 48, 46, 48, 46, 48, 47, 51, 48]⟩ ⟨#[]⟩ ⟨#[]⟩ ⟨#[]⟩ ⟨#[49, 48, 46, 48, 46, 48, 46, 48, 47, 51, 48]⟩ ⟨#[]⟩ ⟨#[]⟩ ⟨#[]⟩ plainR plainR w plain_texts plain_rok plain_texts plain_rok
            rw [plain_ok, plain_self] at this
            exact this)
          clear hc h1 h2 h3 h4 g1 g2 g3 g4 z0 z1 z2 z3 y0 y1 y2 y3
          unfold plainV at HP HPP
          go_wp2_with fail
          refine (HSO.out _).mono ?_
          rintro e w5 ⟨rfl, hb5⟩
          clear c0 c1 c2 c3 d0 d1 d2 d3 cz
          have HB5 := Lib.hid (below_tr HB4.out hb5)
          have hr := two_kept' HB5.out
          have c0 : w5.cell? ⟨w.heap.size, 0, none⟩ = some (.string s0) := cell_of_row w5 _ 0 _ _ _ hr.1
          have c1 : w5.cell? ⟨w.heap.size, 1, none⟩ = some (.string s1) := cell_of_row w5 _ 1 _ _ _ hr.1
          have c2 : w5.cell? ⟨w.heap.size, 2, none⟩ = some (.string s2) := cell_of_row w5 _ 2 _ _ _ hr.1
          have c3 : w5.cell? ⟨w.heap.size, 3, none⟩ = some (.string s3) := cell_of_row w5 _ 3 _ _ _ hr.1
          have d0 : w5.cell? ⟨w.heap.size + 1, 0, none⟩ = some (.string t0) := cell_of_row w5 _ 0 _ _ _ hr.2.1
          have d1 : w5.cell? ⟨w.heap.size + 1, 1, none⟩ = some (.string t1) := cell_of_row w5 _ 1 _ _ _ hr.2.1
          have d2 : w5.cell? ⟨w.heap.size + 1, 2, none⟩ = some (.string t2) := cell_of_row w5 _ 2 _ _ _ hr.2.1
          have d3 : w5.cell? ⟨w.heap.size + 1, 3, none⟩ = some (.string t3) := cell_of_row w5 _ 3 _ _ _ hr.2.1
          have cz : w.heap.size + 1 < w5.heap.size := (Array.getElem?_eq_some_iff.1 hr.2.1).1
          clear hr hb5
          go_wp2_with fail
          refine (HI.out _).mono ?_
          rintro e w6 ⟨rfl, hb6⟩
          clear c0 c1 c2 c3 d0 d1 d2 d3 cz
          have HB6 := Lib.hid (below_tr HB5.out hb6)
          have hr := two_kept' HB6.out
          have c0 : w6.cell? ⟨w.heap.size, 0, none⟩ = some (.string s0) := cell_of_row w6 _ 0 _ _ _ hr.1
          have c1 : w6.cell? ⟨w.heap.size, 1, none⟩ = some (.string s1) := cell_of_row w6 _ 1 _ _ _ hr.1
          have c2 : w6.cell? ⟨w.heap.size, 2, none⟩ = some (.string s2) := cell_of_row w6 _ 2 _ _ _ hr.1
          have c3 : w6.cell? ⟨w.heap.size, 3, none⟩ = some (.string s3) := cell_of_row w6 _ 3 _ _ _ hr.1
          have d0 : w6.cell? ⟨w.heap.size + 1, 0, none⟩ = some (.string t0) := cell_of_row w6 _ 0 _ _ _ hr.2.1
          have d1 : w6.cell? ⟨w.heap.size + 1, 1, none⟩ = some (.string t1) := cell_of_row w6 _ 1 _ _ _ hr.2.1
          have d2 : w6.cell? ⟨w.heap.size + 1, 2, none⟩ = some (.string t2) := cell_of_row w6 _ 2 _ _ _ hr.2.1
          have d3 : w6.cell? ⟨w.heap.size + 1, 3, none⟩ = some (.string t3) := cell_of_row w6 _ 3 _ _ _ hr.2.1
          have cz : w.heap.size + 1 < w6.heap.size := (Array.getElem?_eq_some_iff.1 hr.2.1).1
          clear hr hb6
          cases c <;>
          · go_wp2_with fail
            refine (HJ.out _).mono ?_
            rintro e w7 ⟨rfl, hb7⟩
            clear c0 c1 c2 c3 d0 d1 d2 d3 cz
            have HB7 := Lib.hid (below_tr HB6.out hb7)
            have hr := two_kept' HB7.out
            have c0 : w7.cell? ⟨w.heap.size, 0, none⟩ = some (.string s0) := cell_of_row w7 _ 0 _ _ _ hr.1
            have c1 : w7.cell? ⟨w.heap.size, 1, none⟩ = some (.string s1) := cell_of_row w7 _ 1 _ _ _ hr.1
            have c2 : w7.cell? ⟨w.heap.size, 2, none⟩ = some (.string s2) := cell_of_row w7 _ 2 _ _ _ hr.1
            have c3 : w7.cell? ⟨w.heap.size, 3, none⟩ = some (.string s3) := cell_of_row w7 _ 3 _ _ _ hr.1
            have d0 : w7.cell? ⟨w.heap.size + 1, 0, none⟩ = some (.string t0) := cell_of_row w7 _ 0 _ _ _ hr.2.1
            have d1 : w7.cell? ⟨w.heap.size + 1, 1, none⟩ = some (.string t1) := cell_of_row w7 _ 1 _ _ _ hr.2.1
            have d2 : w7.cell? ⟨w.heap.size + 1, 2, none⟩ = some (.string t2) := cell_of_row w7 _ 2 _ _ _ hr.2.1
            have d3 : w7.cell? ⟨w.heap.size + 1, 3, none⟩ = some (.string t3) := cell_of_row w7 _ 3 _ _ _ hr.2.1
            have cz : w.heap.size + 1 < w7.heap.size := (Array.getElem?_eq_some_iff.1 hr.2.1).1
            clear hr hb7
            go_wp2_with fail
            refine (HP.out _).mono ?_
            rintro e w8 ⟨rfl, hb8⟩
            have HB8 := Lib.hid (below_tr HB7.out hb8)
            clear hb8
            go_wp2_with fail
            refine (HP.out _).mono ?_
            rintro e w9 ⟨rfl, hb9⟩
            have HB9 := Lib.hid (below_tr HB8.out hb9)
            clear hb9
            go_wp2_with fail
            refine (HPP.out _).mono ?_
            rintro e w10 ⟨rfl, hb10⟩
            have HB10 := Lib.hid (below_tr HB9.out hb10)
            clear hb10
            go_wp2_with fail
            go_ret
            exact ⟨rfl, (two_kept' HB10.out).2.2⟩

end Go.Proofs.Ytnehofekgnbelaa

/-
  The plain law of sets: the allocator's test and the reference's are the same.
-/
namespace Go.Proofs.Ytnehofekgnbelaa
open Go.RowKit
set_option linter.unusedVariables false

theorem setB_iff (done rest : List RIn) : setB done rest = true ↔ done ++ rest ≠ [] ∧ (∀ R ∈ rest, okR R = true) ∧ ∀ (i j : Nat) (Q R : RIn), i < j → done.length ≤ j → (done ++ rest)[i]? = some Q → (done ++ rest)[j]? = some R → beside R Q = true := by
  induction rest generalizing done with
  | nil =>
    unfold setB
    rw [List.append_nil]
    constructor
    · intro h
      refine ⟨(fun e => by subst e; cases h), (fun R hR => by cases hR), fun i j Q R _ hj _ hr => ?_⟩
      have := (List.getElem?_eq_some_iff.1 hr).1
      omega
    · rintro ⟨h, _⟩
      cases done with
      | nil => exact absurd rfl h
      | cons a l => rfl
  | cons P rest ih =>
    rw [setB, Bool.and_eq_true, Bool.and_eq_true, ih, List.append_assoc, List.singleton_append, List.all_eq_true]
    constructor
    · rintro ⟨⟨h1, h2⟩, h3, h4, h5⟩
      refine ⟨by simp, fun R hR => ?_, fun i j Q R hij hj hi hr => ?_⟩
      · rcases List.mem_cons.1 hR with rfl | hR
        · exact h1
        · exact h4 R hR
      · by_cases e : j = done.length
        · subst e
          have hR : P = R := by rw [List.getElem?_append_right (Nat.le_refl _)] at hr; simpa using hr
          subst hR
          rw [List.getElem?_append_left hij] at hi
          exact h2 Q (List.mem_of_getElem? hi)
        · exact h5 i j Q R hij (by simp; omega) hi hr
    · rintro ⟨h1, h2, h3⟩
      refine ⟨⟨h2 P (by simp), fun Q hQ => ?_⟩, by simp, fun R hR => h2 R (by simp [hR]), fun i j Q R hij hj hi hr => h3 i j Q R hij (by simp at hj; omega) hi hr⟩
      obtain ⟨t, ht⟩ := List.getElem?_of_mem hQ
      have hl := (List.getElem?_eq_some_iff.1 ht).1
      exact h3 t done.length Q P hl (Nat.le_refl _) (by rw [List.getElem?_append_left hl]; exact ht) (by rw [List.getElem?_append_right (Nat.le_refl _)]; simp)

theorem apartB_iff (Rs : List RIn) : apartB Rs = true ↔ ∀ (i j : Nat) (R Q : RIn), i < j → Rs[i]? = some R → Rs[j]? = some Q → ovrR R Q = false := by
  constructor
  · intro h i j R Q hij hi hj
    cases ho : ovrR R Q with
    | false => rfl
    | true => rw [apartB_not hi hj hij ho] at h; cases h
  · exact apartB_all
theorem six_width {R Q : RIn} (hg : RGuard R) (hg' : RGuard Q) (h : okR R = true) (h' : okR Q = true) : (startOf R).width = (startOf Q).width ↔ R.a.six = Q.a.six := by
  obtain ⟨_, h1, _⟩ := okR_in hg h
  obtain ⟨_, g1, _⟩ := okR_in hg' h'
  unfold Ad.width
  rw [h1, g1]
  cases R.a.six <;> cases Q.a.six <;> simp

theorem sets_same (Rs : List RIn) (hg : ∀ R ∈ Rs, RGuard R) : implB Rs = setB [] Rs := by
  rw [Bool.eq_iff_iff, setB_iff, List.nil_append]
  cases Rs with
  | nil => simp [implB]
  | cons P l =>
    rw [implB_cons, Bool.and_eq_true, Bool.and_eq_true, List.all_eq_true, List.all_eq_true, apartB_iff]
    have mem : ∀ {i : Nat} {R : RIn}, (P :: l)[i]? = some R → R ∈ P :: l := fun h => List.mem_of_getElem? h
    constructor
    · rintro ⟨⟨h1, h2⟩, h3⟩
      refine ⟨by simp, h1, fun i j Q R hij _ hi hj => ?_⟩
      have w1 := h2 Q (mem hi)
      have w2 := h2 R (mem hj)
      simp only [decide_eq_true_eq] at w1 w2
      have h6 := (six_width (hg Q (mem hi)) (hg R (mem hj)) (h1 Q (mem hi)) (h1 R (mem hj))).1 (w1.symm.trans w2)
      have ho := h3 i j Q R hij hi hj
      rw [ovrR_law (hg Q (mem hi)) (h1 Q (mem hi)) (hg R (mem hj)) (h1 R (mem hj)), meetB_comm] at ho
      unfold beside
      rw [ho, h6]
      simp
    · rintro ⟨_, h1, h3⟩
      refine ⟨⟨h1, fun Q hQ => ?_⟩, fun i j R Q hij hi hj => ?_⟩
      · obtain ⟨t, ht⟩ := List.getElem?_of_mem hQ
        rw [decide_eq_true_eq, six_width (hg P (by simp)) (hg Q hQ) (h1 P (by simp)) (h1 Q hQ)]
        cases t with
        | zero =>
          obtain rfl : P = Q := by simpa using ht
          rfl
        | succ t =>
          have hb := h3 0 (t + 1) P Q (by omega) (Nat.zero_le _) rfl ht
          unfold beside at hb
          simp only [Bool.and_eq_true, beq_iff_eq] at hb
          exact hb.1
      · have hb := h3 i j R Q hij (Nat.zero_le _) hi hj
        unfold beside at hb
        simp only [Bool.and_eq_true, Bool.not_eq_true'] at hb
        rw [ovrR_law (hg R (mem hi)) (h1 R (mem hi)) (hg Q (mem hj)) (h1 Q (mem hj)), meetB_comm]
        exact hb.2

end Go.Proofs.Ytnehofekgnbelaa

/-
  laws.FnSet returns true.
-/
namespace Go.Proofs.Ytnehofekgnbelaa
open Go.RowKit
set_option linter.unusedVariables false
set_option maxRecDepth 100000
set_option maxHeartbeats 1000000

def plainTx : Tx := ⟨⟨#[49, 48, 46, 48, 46, 48, 46, 48, 47, 51, 48]⟩, ⟨#[]⟩, ⟨#[]⟩, ⟨#[]⟩⟩
theorem plain_all : TxAll [plainTx] [plainR] := by
  refine ⟨rfl, fun j x hx => ?_⟩
  cases j with
  | zero =>
    obtain rfl : plainTx = x := (by simpa using hx)
    exact ⟨plainR, rfl, plain_texts, plain_rok, (fun _ _ s h => by cases h), by decide +kernel⟩
  | succ j => cases hx
theorem plain_set : implB [plainR] = true := by decide +kernel
theorem plain_row (w : World) : RgsV (w.alloc (.cells #[.string ⟨#[49, 48, 46, 48, 46, 48, 46, 48, 47, 51, 48]⟩, .string ⟨#[]⟩, .string ⟨#[]⟩, .string ⟨#[]⟩] 32)) (some ⟨w.heap.size, 0, none⟩) [plainTx] := by
  intro i x hx
  have hnew := heap_alloc_new w (.cells #[.string ⟨#[49, 48, 46, 48, 46, 48, 46, 48, 47, 51, 48]⟩, .string ⟨#[]⟩, .string ⟨#[]⟩, .string ⟨#[]⟩] 32)
  cases i with
  | zero =>
    obtain rfl : plainTx = x := (by simpa using hx)
    exact ⟨w.heap.size, 0, rfl, by simp, cell_of_row _ _ 0 _ _ _ hnew, cell_of_row _ _ 1 _ _ _ hnew, cell_of_row _ _ 2 _ _ _ hnew, cell_of_row _ _ 3 _ _ _ hnew⟩
  | succ j => cases hx

theorem lawSet (ao : Option Addr) (cap : Nat) (xs : List Tx) (w : World) (h : RgsV w ao xs) :
    Calls Try.prog 7 #[.slice ao xs.length cap] w (LawPost w) := by
  have H := Lib.hid h
  clear h
  go_enter Try.func7, Try.ntmps7
  go_wp2_with fail
  refine (fits2_any ao cap xs _ H.out).mono ?_
  rintro e w1 ⟨ok, rfl, hf, hb1⟩
  have HB1 := Lib.hid hb1
  clear hb1
  cases ok with
  | false =>
    clear hf
    go_wp2_with fail
    go_ret
    exact ⟨rfl, HB1.out⟩
  | true =>
    obtain ⟨hn, hfit⟩ := hf rfl
    have HF := Lib.hid hfit
    clear hf hfit
    go_wp2_with fail
    refine (areRanges_any ao cap xs _ (H.out.on HB1.out) HF.out hn).mono ?_
    rintro e w2 ⟨ok, rfl, hq, hb2⟩
    have HB2 := Lib.hid (below_tr HB1.out hb2)
    clear hb2
    cases ok with
    | false =>
      clear hq
      go_wp2_with fail
      go_ret
      exact ⟨rfl, HB2.out⟩
    | true =>
      obtain ⟨h4, hR⟩ := hq rfl
      obtain ⟨Rs, hall⟩ := txAll_of xs hR
      have hsame := sets_same Rs (fun R hR => by
        obtain ⟨t, ht⟩ := List.getElem?_of_mem hR
        have hl : t < xs.length := by have := (List.getElem?_eq_some_iff.1 ht).1; have := hall.1; omega
        obtain ⟨S, h1, h2⟩ := hall.2 t (xs[t]'hl) (List.getElem?_eq_getElem hl)
        rw [ht] at h1
        cases h1
        exact h2.2.2.1)
      obtain ⟨c, hc⟩ : ∃ c : Bool, c = setB [] Rs := ⟨_, rfl⟩
      have HI := Lib.hid (show ∀ w, RgsV w ao xs → Calls Try.prog 22 #[.slice ao xs.length cap] w (BelowPost w (.bool c)) from fun w hv => by
        rw [hc, ← hsame]; exact implSet_any ao cap xs Rs w hv hall (by omega))
      have HS := Lib.hid (show ∀ w, RgsV w ao xs → Calls Try.prog 23 #[.slice ao xs.length cap] w (BelowPost w (.bool c)) from fun w hv => by
        rw [hc]; exact specSet_any ao cap xs Rs w hv hall (by omega))
      have HP := Lib.hid lawPlain_any
      unfold plainV at HP
      have HPP := Lib.hid (show ∀ (w : World), Calls Try.prog 22 #[.slice (some ⟨w.heap.size, 0, none⟩) 1 1] (w.alloc (.cells #[.string ⟨#[49, 48, 46, 48, 46, 48, 46, 48, 47, 51, 48]⟩, .string ⟨#[]⟩, .string ⟨#[]⟩, .string ⟨#[]⟩] 32)) (BelowPost (w.alloc (.cells #[.string ⟨#[49, 48, 46, 48, 46, 48, 46, 48, 47, 51, 48]⟩, .string ⟨#[]⟩, .string ⟨#[]⟩, .string ⟨#[]⟩] 32)) (.bool true)) from fun w => by
        have := implSet_any (some ⟨w.heap.size, 0, none⟩) 1 [plainTx] [plainR] _ (plain_row w) plain_all (by decide)
        rw [plain_set] at this
        exact this)
      clear hc hsame hall hR hq h4
      go_wp2_with fail
      refine (HI.out _ (H.out.on HB2.out)).mono ?_
      rintro e w3 ⟨rfl, hb3⟩
      have HB3 := Lib.hid (below_tr HB2.out hb3)
      clear hb3
      go_wp2_with fail
      refine (HS.out _ (H.out.on HB3.out)).mono ?_
      rintro e w4 ⟨rfl, hb4⟩
      have HB4 := Lib.hid (below_tr HB3.out hb4)
      clear hb4
      cases c <;>
      · go_wp2_with fail
        refine (HP.out _).mono ?_
        rintro e w5 ⟨rfl, hb5⟩
        have HB5 := Lib.hid (below_tr HB4.out hb5)
        clear hb5
        go_wp2_with fail
        refine (HPP.out _).mono ?_
        rintro e w6 ⟨rfl, hb6⟩
        have HB6 := Lib.hid (below_tr (HB5.out.alloc HB5.out.size _) hb6)
        clear hb6
        go_wp2_with fail
        go_ret
        exact ⟨rfl, HB6.out⟩

end Go.Proofs.Ytnehofekgnbelaa

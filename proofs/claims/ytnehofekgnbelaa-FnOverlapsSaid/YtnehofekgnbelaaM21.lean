/-
  Texts put together: SpCO, LawCO.
-/
import Derived.Test.YtnehofekgnbelaaM20
import Derived.Test.YtnehofekgnbelaaM18
import Derived.Test.YtnehofekgnbelaaM7

/-
  spec.Contains, spec.Overlaps.
-/
namespace Go.Proofs.Ytnehofekgnbelaa
open Go.RowKit
set_option linter.unusedVariables false
set_option maxRecDepth 100000
set_option maxHeartbeats 400000

theorem specContains_any (s0 s1 s2 s3 s : ByteArray) (R : RIn) (b : Ad) (w : World) (h : RTexts s0 s1 s2 s3 R) (hk : ROk R) (hg : RGuard R) (hnum : numOK 128 (cutL 47 (bl s0)).2.1 = true) (hb : readL (bl s) = some b) :
    Calls Try.prog 16 #[.agg #[.string s0, .string s1, .string s2, .string s3], .string s] w (BelowPost w (.bool (okR R && hasB R.a (startOf R) (lastOf R) b))) := by
  have HS := Lib.hid (fun w => spanOf_any s0 s1 s2 s3 R w h hk hg hnum)
  have HR := Lib.hid hb
  have hs := addr_length hb
  clear h hk hg hnum hb
  go_enter Try.func16, Try.ntmps16
  go_wp2_with fail
  refine (HS.out _).mono ?_
  rintro e w1 ⟨net, free, st, en, gw, rfl, hv, hb1⟩
  have HV := Lib.hid hv
  have HB1 := Lib.hid (below_tr ((Below.refl w.heap.size w).alloc (Nat.le_refl _) _) hb1)
  clear hv hb1
  unfold spanv
  go_wp2_with fail
  refine (read_any s _ (by omega)).mono ?_
  rintro e w2 ⟨a, ok, rfl, ha, hn, hb2⟩
  have ha2 : ok = true ∧ a = b := by
    rw [HR.out] at ha
    cases ok with
    | true => rw [if_pos rfl] at ha; exact ⟨rfl, (Option.some.inj ha).symm⟩
    | false => rw [if_neg (by decide)] at ha; cases ha
  obtain ⟨rfl, rfl⟩ := ha2
  have hrow := row_on hb2 (heap_alloc_new _ _)
  have hlt : w1.heap.size < w2.heap.size := (Array.getElem?_eq_some_iff.1 hrow).1
  have HB2 := Lib.hid (below_tr (HB1.out.alloc HB1.out.size _) hb2)
  have g0 : w2.cell? ⟨w1.heap.size, 0, none⟩ = some (.bool net.six) := cell_of_row w2 _ 0 _ _ _ hrow
  have g1 : w2.cell? ⟨w1.heap.size, 1, none⟩ = some (.int .u32 net.n) := cell_of_row w2 _ 1 _ _ _ hrow
  have g2 : w2.cell? ⟨w1.heap.size, 2, none⟩ = some (.int .i64 free) := cell_of_row w2 _ 2 _ _ _ hrow
  have g3 : w2.cell? ⟨w1.heap.size, 3, none⟩ = some (.bool st.six) := cell_of_row w2 _ 3 _ _ _ hrow
  have g4 : w2.cell? ⟨w1.heap.size, 4, none⟩ = some (.int .u32 st.n) := cell_of_row w2 _ 4 _ _ _ hrow
  have g5 : w2.cell? ⟨w1.heap.size, 5, none⟩ = some (.bool en.six) := cell_of_row w2 _ 5 _ _ _ hrow
  have g6 : w2.cell? ⟨w1.heap.size, 6, none⟩ = some (.int .u32 en.n) := cell_of_row w2 _ 6 _ _ _ hrow
  have g7 : w2.cell? ⟨w1.heap.size, 7, none⟩ = some (.bool gw.six) := cell_of_row w2 _ 7 _ _ _ hrow
  have g8 : w2.cell? ⟨w1.heap.size, 8, none⟩ = some (.int .u32 gw.n) := cell_of_row w2 _ 8 _ _ _ hrow
  clear ha hb2 hrow
  unfold adv
  cases hok : okR R with
  | false =>
    have HOK := Lib.hid hok
    clear hok
    go_wp2_with fail
    go_ret
    exact ⟨by rw [HOK.out]; rfl, HB2.out.alloc HB2.out.size _⟩
  | true =>
    have E5 := Lib.hid (And.intro hok (HV.out hok))
    clear hok
    go_wp2_with fail
    refine (has_any net st en gw a free _).mono ?_
    rintro e w3 ⟨rfl, hb3⟩
    have HB3 := Lib.hid (below_tr (HB2.out.alloc HB2.out.size _) hb3)
    clear hb3
    go_wp2_with fail
    go_ret
    refine ⟨?_, HB3.out⟩
    obtain ⟨hok, rfl, rfl, rfl, rfl, rfl⟩ := E5.out
    rw [hok]
    rfl

theorem specOverlaps_any (s0 s1 s2 s3 t0 t1 t2 t3 : ByteArray) (R Q : RIn) (w : World) (h : RTexts s0 s1 s2 s3 R) (hk : ROk R) (hg : RGuard R) (hnum : numOK 128 (cutL 47 (bl s0)).2.1 = true)
    (h' : RTexts t0 t1 t2 t3 Q) (hk' : ROk Q) (hg' : RGuard Q) (hnum' : numOK 128 (cutL 47 (bl t0)).2.1 = true) :
    Calls Try.prog 18 #[.agg #[.string s0, .string s1, .string s2, .string s3], .agg #[.string t0, .string t1, .string t2, .string t3]] w
      (BelowPost w (.bool (okR R && okR Q && meetB R.a (startOf R) (lastOf R) Q.a (startOf Q) (lastOf Q)))) := by
  have HS := Lib.hid (fun w => spanOf_any s0 s1 s2 s3 R w h hk hg hnum)
  have HT := Lib.hid (fun w => spanOf_any t0 t1 t2 t3 Q w h' hk' hg' hnum')
  clear h hk hg hnum h' hk' hg' hnum'
  go_enter Try.func18, Try.ntmps18
  go_wp2_with fail
  refine (HS.out _).mono ?_
  rintro e w1 ⟨net, free, st, en, gw, rfl, hv, hb1⟩
  have HV := Lib.hid hv
  have HB1 := Lib.hid (below_tr (((Below.refl w.heap.size w).alloc (Nat.le_refl _) _).alloc (by simp) _) hb1)
  have hrow := row_on hb1 (heap_alloc_new _ _)
  have hlt : w.heap.size + 1 < w1.heap.size := by have := (Array.getElem?_eq_some_iff.1 hrow).1; simpa using this
  have c0 : w1.cell? ⟨w.heap.size + 1, 0, none⟩ = some (.string t0) := by have := cell_of_row w1 _ 0 _ _ _ hrow; simpa using this
  have c1 : w1.cell? ⟨w.heap.size + 1, 1, none⟩ = some (.string t1) := by have := cell_of_row w1 _ 1 _ _ _ hrow; simpa using this
  have c2 : w1.cell? ⟨w.heap.size + 1, 2, none⟩ = some (.string t2) := by have := cell_of_row w1 _ 2 _ _ _ hrow; simpa using this
  have c3 : w1.cell? ⟨w.heap.size + 1, 3, none⟩ = some (.string t3) := by have := cell_of_row w1 _ 3 _ _ _ hrow; simpa using this
  clear hv hb1 hrow
  unfold spanv
  go_wp2_with fail
  refine (HT.out _).mono ?_
  rintro e w2 ⟨net', free', st', en', gw', rfl, hv', hb2⟩
  have HV' := Lib.hid hv'
  have hrow := row_on hb2 (heap_alloc_new _ _)
  have hlt2 : w1.heap.size < w2.heap.size := (Array.getElem?_eq_some_iff.1 hrow).1
  have HB2 := Lib.hid (below_tr (HB1.out.alloc HB1.out.size _) hb2)
  have g0 : w2.cell? ⟨w1.heap.size, 0, none⟩ = some (.bool net.six) := cell_of_row w2 _ 0 _ _ _ hrow
  have g1 : w2.cell? ⟨w1.heap.size, 1, none⟩ = some (.int .u32 net.n) := cell_of_row w2 _ 1 _ _ _ hrow
  have g2 : w2.cell? ⟨w1.heap.size, 2, none⟩ = some (.int .i64 free) := cell_of_row w2 _ 2 _ _ _ hrow
  have g3 : w2.cell? ⟨w1.heap.size, 3, none⟩ = some (.bool st.six) := cell_of_row w2 _ 3 _ _ _ hrow
  have g4 : w2.cell? ⟨w1.heap.size, 4, none⟩ = some (.int .u32 st.n) := cell_of_row w2 _ 4 _ _ _ hrow
  have g5 : w2.cell? ⟨w1.heap.size, 5, none⟩ = some (.bool en.six) := cell_of_row w2 _ 5 _ _ _ hrow
  have g6 : w2.cell? ⟨w1.heap.size, 6, none⟩ = some (.int .u32 en.n) := cell_of_row w2 _ 6 _ _ _ hrow
  have g7 : w2.cell? ⟨w1.heap.size, 7, none⟩ = some (.bool gw.six) := cell_of_row w2 _ 7 _ _ _ hrow
  have g8 : w2.cell? ⟨w1.heap.size, 8, none⟩ = some (.int .u32 gw.n) := cell_of_row w2 _ 8 _ _ _ hrow
  clear hv' hb2 hrow c0 c1 c2 c3
  unfold spanv
  cases hok : okR R with
  | false =>
    have HOK := Lib.hid hok
    clear hok
    generalize okR Q = q
    cases q <;>
    · go_wp2_with fail
      go_ret
      exact ⟨by rw [HOK.out]; rfl, HB2.out.alloc HB2.out.size _⟩
  | true =>
    have E5 := Lib.hid (And.intro hok (HV.out hok))
    clear hok
    cases hoq : okR Q with
    | false =>
      have HOQ := Lib.hid hoq
      clear hoq
      go_wp2_with fail
      go_ret
      exact ⟨by rw [E5.out.1, HOQ.out]; rfl, HB2.out.alloc HB2.out.size _⟩
    | true =>
      have E6 := Lib.hid (And.intro hoq (HV'.out hoq))
      clear hoq
      go_wp2_with fail
      refine (meet_any net st en gw net' st' en' gw' free free' _).mono ?_
      rintro e w3 ⟨rfl, hb3⟩
      have HB3 := Lib.hid (below_tr (HB2.out.alloc HB2.out.size _) hb3)
      clear hb3
      go_wp2_with fail
      go_ret
      refine ⟨?_, HB3.out⟩
      obtain ⟨hok, rfl, rfl, rfl, rfl, rfl⟩ := E5.out
      obtain ⟨hoq, rfl, rfl, rfl, rfl, rfl⟩ := E6.out
      rw [hok, hoq]
      rfl

end Go.Proofs.Ytnehofekgnbelaa

/-
  laws.FnContains and laws.FnOverlaps return true.
-/
namespace Go.Proofs.Ytnehofekgnbelaa
open Go.RowKit
set_option linter.unusedVariables false
set_option maxRecDepth 100000
set_option maxHeartbeats 2000000

instance kinMet (w : World) : Nonempty (Kin w) := ⟨⟨w, Below.refl w.heap.size w⟩⟩

theorem meetB_comm (n s e n' s' e' : Ad) : meetB n s e n' s' e' = meetB n' s' e' n s e := by
  unfold meetB
  rw [Bool.eq_iff_iff]
  simp only [Bool.and_eq_true, decide_eq_true_eq, beq_iff_eq]
  constructor <;> (rintro ⟨⟨h1, h2⟩, h3⟩; exact ⟨⟨h1.symm, h3⟩, h2⟩)
theorem contains_same {R : RIn} (hg : RGuard R) (b : Ad) : (okR R && contR R b) = (okR R && hasB R.a (startOf R) (lastOf R) b) := by
  cases h : okR R with
  | false => rfl
  | true => rw [contR_law hg h b]
theorem overlaps_same {R Q : RIn} (hg : RGuard R) (hg' : RGuard Q) : (okR R && okR Q && ovrR R Q) = (okR R && okR Q && meetB R.a (startOf R) (lastOf R) Q.a (startOf Q) (lastOf Q)) := by
  cases h : okR R with
  | false => rfl
  | true =>
    cases h' : okR Q with
    | false => rfl
    | true => rw [ovrR_law hg h hg' h']
theorem overlaps_turned {R Q : RIn} (hg : RGuard R) (hg' : RGuard Q) : (okR Q && okR R && ovrR Q R) = (okR R && okR Q && meetB R.a (startOf R) (lastOf R) Q.a (startOf Q) (lastOf Q)) := by
  rw [overlaps_same hg' hg, meetB_comm, Bool.and_comm (okR Q)]

theorem lawContains (s0 s1 s2 s3 s : ByteArray) (w : World) :
    Calls Try.prog 5 #[.agg #[.string s0, .string s1, .string s2, .string s3], .string s] w (LawPost w) := by
  go_enter Try.func5, Try.ntmps5
  go_wp2_with fail
  refine (fits1_any s0 s1 s2 s3 _).mono ?_
  rintro e w1 ⟨ok, rfl, hf, hb1⟩
  have HB1 := Lib.hid (below_tr (Below.refl (w.alloc (.cells #[.string s0, .string s1, .string s2, .string s3] 32)).heap.size (w.alloc (.cells #[.string s0, .string s1, .string s2, .string s3] 32))) hb1)
  have hr := nz5_old' HB1.out
  have c0 : w1.cell? ⟨w.heap.size, 0, none⟩ = some (.string s0) := cell_of_row w1 _ 0 _ _ _ hr.1
  have c1 : w1.cell? ⟨w.heap.size, 1, none⟩ = some (.string s1) := cell_of_row w1 _ 1 _ _ _ hr.1
  have c2 : w1.cell? ⟨w.heap.size, 2, none⟩ = some (.string s2) := cell_of_row w1 _ 2 _ _ _ hr.1
  have c3 : w1.cell? ⟨w.heap.size, 3, none⟩ = some (.string s3) := cell_of_row w1 _ 3 _ _ _ hr.1
  have cz : w.heap.size < w1.heap.size := (Array.getElem?_eq_some_iff.1 hr.1).1
  clear hr hb1
  cases ok with
  | false =>
    clear hf
    go_wp2_with fail
    go_ret
    exact ⟨rfl, (nz5_old' HB1.out).2⟩
  | true =>
    obtain ⟨z0, z1, z2, z3⟩ := hf rfl
    clear hf
    by_cases hs : s.size ≤ 2147483647
    rotate_left
    · have tt : decide ((2147483647 : Int) < s.size) = true := decide_eq_true (by omega)
      go_wp2_with fail
      go_ret
      exact ⟨rfl, (nz5_old' HB1.out).2⟩
    have tt : decide ((2147483647 : Int) < s.size) = false := decide_eq_false (by omega)
    go_wp2_with fail
    refine (isRange_any s0 s1 s2 s3 _ z0 z1 z2 z3).mono ?_
    rintro e w2 ⟨ok, rfl, hR, hb2⟩
    clear c0 c1 c2 c3 cz
    have HB2 := Lib.hid (below_tr HB1.out hb2)
    have hr := nz5_old' HB2.out
    have c0 : w2.cell? ⟨w.heap.size, 0, none⟩ = some (.string s0) := cell_of_row w2 _ 0 _ _ _ hr.1
    have c1 : w2.cell? ⟨w.heap.size, 1, none⟩ = some (.string s1) := cell_of_row w2 _ 1 _ _ _ hr.1
    have c2 : w2.cell? ⟨w.heap.size, 2, none⟩ = some (.string s2) := cell_of_row w2 _ 2 _ _ _ hr.1
    have c3 : w2.cell? ⟨w.heap.size, 3, none⟩ = some (.string s3) := cell_of_row w2 _ 3 _ _ _ hr.1
    have cz : w.heap.size < w2.heap.size := (Array.getElem?_eq_some_iff.1 hr.1).1
    clear hr hb2
    cases ok with
    | false =>
      clear hR
      go_wp2_with fail
      go_ret
      exact ⟨rfl, (nz5_old' HB2.out).2⟩
    | true =>
      obtain ⟨R, h1, h2, h3, h4⟩ := hR rfl
      clear hR
      by_cases ha : isAddr (bl s) = true
      rotate_left
      · have ha' : isAddr (bl s) = false := by simpa using ha
        have HA := Lib.hid (fun w => isAddress_any s w hs)
        rw [ha'] at HA
        clear ha ha' h1 h2 h3 h4
        go_wp2_with fail
        refine (HA.out _).mono ?_
        rintro e w3 ⟨rfl, hb3⟩
        clear c0 c1 c2 c3 cz
        have HB3 := Lib.hid (below_tr HB2.out hb3)
        have hr := nz5_old' HB3.out
        have c0 : w3.cell? ⟨w.heap.size, 0, none⟩ = some (.string s0) := cell_of_row w3 _ 0 _ _ _ hr.1
        have c1 : w3.cell? ⟨w.heap.size, 1, none⟩ = some (.string s1) := cell_of_row w3 _ 1 _ _ _ hr.1
        have c2 : w3.cell? ⟨w.heap.size, 2, none⟩ = some (.string s2) := cell_of_row w3 _ 2 _ _ _ hr.1
        have c3 : w3.cell? ⟨w.heap.size, 3, none⟩ = some (.string s3) := cell_of_row w3 _ 3 _ _ _ hr.1
        have cz : w.heap.size < w3.heap.size := (Array.getElem?_eq_some_iff.1 hr.1).1
        clear hr hb3
        go_wp2_with fail
        go_ret
        exact ⟨rfl, (nz5_old' HB3.out).2⟩
      have HA := Lib.hid (fun w => isAddress_any s w hs)
      rw [ha] at HA
      obtain ⟨b, eb⟩ := Option.isSome_iff_exists.1 ha
      obtain ⟨c, hc⟩ : ∃ c : Bool, c = (okR R && hasB R.a (startOf R) (lastOf R) b) := ⟨_, rfl⟩
      have HI := Lib.hid (show ∀ w, Calls Try.prog 15 #[.agg #[.string s0, .string s1, .string s2, .string s3], .string s] w (BelowPost w (.bool c)) from fun w => by
        rw [hc, ← contains_same h3 b]; exact implContains_any s0 s1 s2 s3 s R b w h1 h2 eb)
      have HSC := Lib.hid (show ∀ w, Calls Try.prog 16 #[.agg #[.string s0, .string s1, .string s2, .string s3], .string s] w (BelowPost w (.bool c)) from fun w => by
        rw [hc]; exact specContains_any s0 s1 s2 s3 s R b w h1 h2 h3 h4 eb)
      have HP := Lib.hid lawPlain_any
      have HPC := Lib.hid (show ∀ w, Calls Try.prog 15 #[plainV, .string ⟨#[49, 48, 46, 48, 46, 48, 46, 50]⟩] w (BelowPost w (.bool true)) from fun w => by
        have := implContains_any ⟨#[49, 48, 46, 48, 46, 48, 46, 48, 47, 51, 48]⟩ ⟨#[]⟩ ⟨#[]⟩ ⟨#[]⟩ ⟨#[49, 48, 46, 48, 46, 48, 46, 50]⟩ plainR ⟨false, 167772162⟩ w plain_texts plain_rok (by decide +kernel)
        rw [plain_ok, plain_two] at this
        exact this)
      clear ha eb hc h1 h2 h3 h4 z0 z1 z2 z3 hs
      unfold plainV at HP HPC
      go_wp2_with fail
      refine (HA.out _).mono ?_
      rintro e w3 ⟨rfl, hb3⟩
      clear c0 c1 c2 c3 cz
      have HB3 := Lib.hid (below_tr HB2.out hb3)
      have hr := nz5_old' HB3.out
      have c0 : w3.cell? ⟨w.heap.size, 0, none⟩ = some (.string s0) := cell_of_row w3 _ 0 _ _ _ hr.1
      have c1 : w3.cell? ⟨w.heap.size, 1, none⟩ = some (.string s1) := cell_of_row w3 _ 1 _ _ _ hr.1
      have c2 : w3.cell? ⟨w.heap.size, 2, none⟩ = some (.string s2) := cell_of_row w3 _ 2 _ _ _ hr.1
      have c3 : w3.cell? ⟨w.heap.size, 3, none⟩ = some (.string s3) := cell_of_row w3 _ 3 _ _ _ hr.1
      have cz : w.heap.size < w3.heap.size := (Array.getElem?_eq_some_iff.1 hr.1).1
      clear hr hb3
      cases c <;>
      · go_wp2_with fail
        have k0 : ∀ x : Kin w3, x.on.cell? ⟨w.heap.size, 0, none⟩ = some (.string s0) := kin_cell c0
        have k1 : ∀ x : Kin w3, x.on.cell? ⟨w.heap.size, 1, none⟩ = some (.string s1) := kin_cell c1
        have k2 : ∀ x : Kin w3, x.on.cell? ⟨w.heap.size, 2, none⟩ = some (.string s2) := kin_cell c2
        have k3 : ∀ x : Kin w3, x.on.cell? ⟨w.heap.size, 3, none⟩ = some (.string s3) := kin_cell c3
        refine kin_region (by kernel_rfl) (by kernel_rfl) ?_
        repeat (go_big_quiet_step (first
          | (go_at_call_of 15 (Value.string s); exact kin_call (fun _ _ h => h) (HI.out _))
          | (go_at_call 16; exact kin_call (fun _ _ h => h) (HSC.out _))
          | (go_at_call 17; exact kin_call (fun _ _ h => h) (HP.out _))
          | (go_at_call 15; exact kin_call (fun _ _ h => h) (HPC.out _))))
        refine wpQuiet_nil ?_
        intro _ hw'
        obtain ⟨x, rfl⟩ := hw'
        go_wp2_with fail
        go_ret
        exact ⟨rfl, (nz5_old' (below_tr HB3.out x.ok)).2⟩

theorem lawOverlaps (s0 s1 s2 s3 t0 t1 t2 t3 : ByteArray) (w : World) :
    Calls Try.prog 6 #[.agg #[.string s0, .string s1, .string s2, .string s3], .agg #[.string t0, .string t1, .string t2, .string t3]] w (LawPost w) := by
  go_enter Try.func6, Try.ntmps6
  go_wp2_with fail
  refine (fits1_any s0 s1 s2 s3 _).mono ?_
  rintro e w1 ⟨ok, rfl, hf, hb1⟩
  have HB1 := Lib.hid (below_tr (Below.refl ((w.alloc (.cells #[.string s0, .string s1, .string s2, .string s3] 32)).alloc (.cells #[.string t0, .string t1, .string t2, .string t3] 32)).heap.size ((w.alloc (.cells #[.string s0, .string s1, .string s2, .string s3] 32)).alloc (.cells #[.string t0, .string t1, .string t2, .string t3] 32))) hb1)
  have hr := two_kept' HB1.out
  have c0 : w1.cell? ⟨w.heap.size, 0, none⟩ = some (.string s0) := cell_of_row w1 _ 0 _ _ _ hr.1
  have c1 : w1.cell? ⟨w.heap.size, 1, none⟩ = some (.string s1) := cell_of_row w1 _ 1 _ _ _ hr.1
  have c2 : w1.cell? ⟨w.heap.size, 2, none⟩ = some (.string s2) := cell_of_row w1 _ 2 _ _ _ hr.1
  have c3 : w1.cell? ⟨w.heap.size, 3, none⟩ = some (.string s3) := cell_of_row w1 _ 3 _ _ _ hr.1
  have d0 : w1.cell? ⟨w.heap.size + 1, 0, none⟩ = some (.string t0) := cell_of_row w1 _ 0 _ _ _ hr.2.1
  have d1 : w1.cell? ⟨w.heap.size + 1, 1, none⟩ = some (.string t1) := cell_of_row w1 _ 1 _ _ _ hr.2.1
  have d2 : w1.cell? ⟨w.heap.size + 1, 2, none⟩ = some (.string t2) := cell_of_row w1 _ 2 _ _ _ hr.2.1
  have d3 : w1.cell? ⟨w.heap.size + 1, 3, none⟩ = some (.string t3) := cell_of_row w1 _ 3 _ _ _ hr.2.1
  have cz : w.heap.size + 1 < w1.heap.size := (Array.getElem?_eq_some_iff.1 hr.2.1).1
  clear hr hb1
  cases ok with
  | false =>
    clear hf
    go_wp2_with fail
    go_ret
    exact ⟨rfl, (two_kept' HB1.out).2.2⟩
  | true =>
    obtain ⟨z0, z1, z2, z3⟩ := hf rfl
    clear hf
    go_wp2_with fail
    refine (fits1_any t0 t1 t2 t3 _).mono ?_
    rintro e w2 ⟨ok, rfl, hf, hb2⟩
    clear c0 c1 c2 c3 d0 d1 d2 d3 cz
    have HB2 := Lib.hid (below_tr HB1.out hb2)
    have hr := two_kept' HB2.out
    have c0 : w2.cell? ⟨w.heap.size, 0, none⟩ = some (.string s0) := cell_of_row w2 _ 0 _ _ _ hr.1
    have c1 : w2.cell? ⟨w.heap.size, 1, none⟩ = some (.string s1) := cell_of_row w2 _ 1 _ _ _ hr.1
    have c2 : w2.cell? ⟨w.heap.size, 2, none⟩ = some (.string s2) := cell_of_row w2 _ 2 _ _ _ hr.1
    have c3 : w2.cell? ⟨w.heap.size, 3, none⟩ = some (.string s3) := cell_of_row w2 _ 3 _ _ _ hr.1
    have d0 : w2.cell? ⟨w.heap.size + 1, 0, none⟩ = some (.string t0) := cell_of_row w2 _ 0 _ _ _ hr.2.1
    have d1 : w2.cell? ⟨w.heap.size + 1, 1, none⟩ = some (.string t1) := cell_of_row w2 _ 1 _ _ _ hr.2.1
    have d2 : w2.cell? ⟨w.heap.size + 1, 2, none⟩ = some (.string t2) := cell_of_row w2 _ 2 _ _ _ hr.2.1
    have d3 : w2.cell? ⟨w.heap.size + 1, 3, none⟩ = some (.string t3) := cell_of_row w2 _ 3 _ _ _ hr.2.1
    have cz : w.heap.size + 1 < w2.heap.size := (Array.getElem?_eq_some_iff.1 hr.2.1).1
    clear hr hb2
    cases ok with
    | false =>
      clear hf
      go_wp2_with fail
      go_ret
      exact ⟨rfl, (two_kept' HB2.out).2.2⟩
    | true =>
      obtain ⟨y0, y1, y2, y3⟩ := hf rfl
      clear hf
      go_wp2_with fail
      refine (isRange_any s0 s1 s2 s3 _ z0 z1 z2 z3).mono ?_
      rintro e w3 ⟨ok, rfl, hR, hb3⟩
      clear c0 c1 c2 c3 d0 d1 d2 d3 cz
      have HB3 := Lib.hid (below_tr HB2.out hb3)
      have hr := two_kept' HB3.out
      have c0 : w3.cell? ⟨w.heap.size, 0, none⟩ = some (.string s0) := cell_of_row w3 _ 0 _ _ _ hr.1
      have c1 : w3.cell? ⟨w.heap.size, 1, none⟩ = some (.string s1) := cell_of_row w3 _ 1 _ _ _ hr.1
      have c2 : w3.cell? ⟨w.heap.size, 2, none⟩ = some (.string s2) := cell_of_row w3 _ 2 _ _ _ hr.1
      have c3 : w3.cell? ⟨w.heap.size, 3, none⟩ = some (.string s3) := cell_of_row w3 _ 3 _ _ _ hr.1
      have d0 : w3.cell? ⟨w.heap.size + 1, 0, none⟩ = some (.string t0) := cell_of_row w3 _ 0 _ _ _ hr.2.1
      have d1 : w3.cell? ⟨w.heap.size + 1, 1, none⟩ = some (.string t1) := cell_of_row w3 _ 1 _ _ _ hr.2.1
      have d2 : w3.cell? ⟨w.heap.size + 1, 2, none⟩ = some (.string t2) := cell_of_row w3 _ 2 _ _ _ hr.2.1
      have d3 : w3.cell? ⟨w.heap.size + 1, 3, none⟩ = some (.string t3) := cell_of_row w3 _ 3 _ _ _ hr.2.1
      have cz : w.heap.size + 1 < w3.heap.size := (Array.getElem?_eq_some_iff.1 hr.2.1).1
      clear hr hb3
      cases ok with
      | false =>
        clear hR
        go_wp2_with fail
        go_ret
        exact ⟨rfl, (two_kept' HB3.out).2.2⟩
      | true =>
        obtain ⟨R, h1, h2, h3, h4⟩ := hR rfl
        clear hR
        go_wp2_with fail
        refine (isRange_any t0 t1 t2 t3 _ y0 y1 y2 y3).mono ?_
        rintro e w4 ⟨ok, rfl, hQ, hb4⟩
        clear c0 c1 c2 c3 d0 d1 d2 d3 cz
        have HB4 := Lib.hid (below_tr HB3.out hb4)
        have hr := two_kept' HB4.out
        have c0 : w4.cell? ⟨w.heap.size, 0, none⟩ = some (.string s0) := cell_of_row w4 _ 0 _ _ _ hr.1
        have c1 : w4.cell? ⟨w.heap.size, 1, none⟩ = some (.string s1) := cell_of_row w4 _ 1 _ _ _ hr.1
        have c2 : w4.cell? ⟨w.heap.size, 2, none⟩ = some (.string s2) := cell_of_row w4 _ 2 _ _ _ hr.1
        have c3 : w4.cell? ⟨w.heap.size, 3, none⟩ = some (.string s3) := cell_of_row w4 _ 3 _ _ _ hr.1
        have d0 : w4.cell? ⟨w.heap.size + 1, 0, none⟩ = some (.string t0) := cell_of_row w4 _ 0 _ _ _ hr.2.1
        have d1 : w4.cell? ⟨w.heap.size + 1, 1, none⟩ = some (.string t1) := cell_of_row w4 _ 1 _ _ _ hr.2.1
        have d2 : w4.cell? ⟨w.heap.size + 1, 2, none⟩ = some (.string t2) := cell_of_row w4 _ 2 _ _ _ hr.2.1
        have d3 : w4.cell? ⟨w.heap.size + 1, 3, none⟩ = some (.string t3) := cell_of_row w4 _ 3 _ _ _ hr.2.1
        have cz : w.heap.size + 1 < w4.heap.size := (Array.getElem?_eq_some_iff.1 hr.2.1).1
        clear hr hb4
        cases ok with
        | false =>
          clear hQ
          go_wp2_with fail
          go_ret
          exact ⟨rfl, (two_kept' HB4.out).2.2⟩
        | true =>
          obtain ⟨Q, g1, g2, g3, g4⟩ := hQ rfl
          clear hQ
          obtain ⟨c, hc⟩ : ∃ c : Bool, c = (okR R && okR Q && meetB R.a (startOf R) (lastOf R) Q.a (startOf Q) (lastOf Q)) := ⟨_, rfl⟩
          have HSO := Lib.hid (show ∀ w, Calls Try.prog 18 #[.agg #[.string s0, .string s1, .string s2, .string s3], .agg #[.string t0, .string t1, .string t2, .string t3]] w (BelowPost w (.bool c)) from fun w => by
            rw [hc]; exact specOverlaps_any s0 s1 s2 s3 t0 t1 t2 t3 R Q w h1 h2 h3 h4 g1 g2 g3 g4)
          have HI := Lib.hid (show ∀ w, Calls Try.prog 19 #[.agg #[.string s0, .string s1, .string s2, .string s3], .agg #[.string t0, .string t1, .string t2, .string t3]] w (BelowPost w (.bool c)) from fun w => by
            rw [hc, ← overlaps_same h3 g3]; exact implOverlaps_any s0 s1 s2 s3 t0 t1 t2 t3 R Q w h1 h2 g1 g2)
          have HJ := Lib.hid (show ∀ w, Calls Try.prog 19 #[.agg #[.string t0, .string t1, .string t2, .string t3], .agg #[.string s0, .string s1, .string s2, .string s3]] w (BelowPost w (.bool c)) from fun w => by
            rw [hc, ← overlaps_turned h3 g3]; exact implOverlaps_any t0 t1 t2 t3 s0 s1 s2 s3 Q R w g1 g2 h1 h2)
          have HP := Lib.hid lawPlain_any
          have HPP := Lib.hid (show ∀ w, Calls Try.prog 19 #[plainV, plainV] w (BelowPost w (.bool true)) from fun w => by
            have := implOverlaps_any ⟨#[49, 48, 46, 48, 46, 48, 46, 48, 47, 51, 48]⟩ ⟨#[]⟩ ⟨#[]⟩ ⟨#[]⟩ ⟨#[49, 48, 46, 48, 46, 48, 46, 48, 47, 51, 48]⟩ ⟨#[]⟩ ⟨#[]⟩ ⟨#[]⟩ plainR plainR w plain_texts plain_rok plain_texts plain_rok
            rw [plain_ok, plain_self] at this
            exact this)
          clear hc h1 h2 h3 h4 g1 g2 g3 g4 z0 z1 z2 z3 y0 y1 y2 y3
          unfold plainV at HP HPP
          go_wp2_with fail
          refine (HSO.out _).mono ?_
          rintro e w5 ⟨rfl, hb5⟩
          clear c0 c1 c2 c3 d0 d1 d2 d3 cz
          have HB5 := Lib.hid (below_tr HB4.out hb5)
          have hr := two_kept' HB5.out
          have c0 : w5.cell? ⟨w.heap.size, 0, none⟩ = some (.string s0) := cell_of_row w5 _ 0 _ _ _ hr.1
          have c1 : w5.cell? ⟨w.heap.size, 1, none⟩ = some (.string s1) := cell_of_row w5 _ 1 _ _ _ hr.1
          have c2 : w5.cell? ⟨w.heap.size, 2, none⟩ = some (.string s2) := cell_of_row w5 _ 2 _ _ _ hr.1
          have c3 : w5.cell? ⟨w.heap.size, 3, none⟩ = some (.string s3) := cell_of_row w5 _ 3 _ _ _ hr.1
          have d0 : w5.cell? ⟨w.heap.size + 1, 0, none⟩ = some (.string t0) := cell_of_row w5 _ 0 _ _ _ hr.2.1
          have d1 : w5.cell? ⟨w.heap.size + 1, 1, none⟩ = some (.string t1) := cell_of_row w5 _ 1 _ _ _ hr.2.1
          have d2 : w5.cell? ⟨w.heap.size + 1, 2, none⟩ = some (.string t2) := cell_of_row w5 _ 2 _ _ _ hr.2.1
          have d3 : w5.cell? ⟨w.heap.size + 1, 3, none⟩ = some (.string t3) := cell_of_row w5 _ 3 _ _ _ hr.2.1
          have cz : w.heap.size + 1 < w5.heap.size := (Array.getElem?_eq_some_iff.1 hr.2.1).1
          clear hr hb5
          go_wp2_with fail
          refine (HI.out _).mono ?_
          rintro e w6 ⟨rfl, hb6⟩
          clear c0 c1 c2 c3 d0 d1 d2 d3 cz
          have HB6 := Lib.hid (below_tr HB5.out hb6)
          have hr := two_kept' HB6.out
          have c0 : w6.cell? ⟨w.heap.size, 0, none⟩ = some (.string s0) := cell_of_row w6 _ 0 _ _ _ hr.1
          have c1 : w6.cell? ⟨w.heap.size, 1, none⟩ = some (.string s1) := cell_of_row w6 _ 1 _ _ _ hr.1
          have c2 : w6.cell? ⟨w.heap.size, 2, none⟩ = some (.string s2) := cell_of_row w6 _ 2 _ _ _ hr.1
          have c3 : w6.cell? ⟨w.heap.size, 3, none⟩ = some (.string s3) := cell_of_row w6 _ 3 _ _ _ hr.1
          have d0 : w6.cell? ⟨w.heap.size + 1, 0, none⟩ = some (.string t0) := cell_of_row w6 _ 0 _ _ _ hr.2.1
          have d1 : w6.cell? ⟨w.heap.size + 1, 1, none⟩ = some (.string t1) := cell_of_row w6 _ 1 _ _ _ hr.2.1
          have d2 : w6.cell? ⟨w.heap.size + 1, 2, none⟩ = some (.string t2) := cell_of_row w6 _ 2 _ _ _ hr.2.1
          have d3 : w6.cell? ⟨w.heap.size + 1, 3, none⟩ = some (.string t3) := cell_of_row w6 _ 3 _ _ _ hr.2.1
          have cz : w.heap.size + 1 < w6.heap.size := (Array.getElem?_eq_some_iff.1 hr.2.1).1
          clear hr hb6
          cases c <;>
          · go_wp2_with fail
            refine (HJ.out _).mono ?_
            rintro e w7 ⟨rfl, hb7⟩
            clear c0 c1 c2 c3 d0 d1 d2 d3 cz
            have HB7 := Lib.hid (below_tr HB6.out hb7)
            have hr := two_kept' HB7.out
            have c0 : w7.cell? ⟨w.heap.size, 0, none⟩ = some (.string s0) := cell_of_row w7 _ 0 _ _ _ hr.1
            have c1 : w7.cell? ⟨w.heap.size, 1, none⟩ = some (.string s1) := cell_of_row w7 _ 1 _ _ _ hr.1
            have c2 : w7.cell? ⟨w.heap.size, 2, none⟩ = some (.string s2) := cell_of_row w7 _ 2 _ _ _ hr.1
            have c3 : w7.cell? ⟨w.heap.size, 3, none⟩ = some (.string s3) := cell_of_row w7 _ 3 _ _ _ hr.1
            have d0 : w7.cell? ⟨w.heap.size + 1, 0, none⟩ = some (.string t0) := cell_of_row w7 _ 0 _ _ _ hr.2.1
            have d1 : w7.cell? ⟨w.heap.size + 1, 1, none⟩ = some (.string t1) := cell_of_row w7 _ 1 _ _ _ hr.2.1
            have d2 : w7.cell? ⟨w.heap.size + 1, 2, none⟩ = some (.string t2) := cell_of_row w7 _ 2 _ _ _ hr.2.1
            have d3 : w7.cell? ⟨w.heap.size + 1, 3, none⟩ = some (.string t3) := cell_of_row w7 _ 3 _ _ _ hr.2.1
            have cz : w.heap.size + 1 < w7.heap.size := (Array.getElem?_eq_some_iff.1 hr.2.1).1
            clear hr hb7
            go_wp2_with fail
            refine (HP.out _).mono ?_
            rintro e w8 ⟨rfl, hb8⟩
            have HB8 := Lib.hid (below_tr HB7.out hb8)
            clear hb8
            go_wp2_with fail
            refine (HP.out _).mono ?_
            rintro e w9 ⟨rfl, hb9⟩
            have HB9 := Lib.hid (below_tr HB8.out hb9)
            clear hb9
            go_wp2_with fail
            refine (HPP.out _).mono ?_
            rintro e w10 ⟨rfl, hb10⟩
            have HB10 := Lib.hid (below_tr HB9.out hb10)
            clear hb10
            go_wp2_with fail
            go_ret
            exact ⟨rfl, (two_kept' HB10.out).2.2⟩

end Go.Proofs.Ytnehofekgnbelaa

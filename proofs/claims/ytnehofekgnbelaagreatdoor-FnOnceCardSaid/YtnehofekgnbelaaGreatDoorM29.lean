/-
  Texts put together: SpCO, LawCO.
-/
import Derived.Test.YtnehofekgnbelaaGreatDoorM28
import Derived.Test.YtnehofekgnbelaaGreatDoorM25
import Derived.Test.YtnehofekgnbelaaGreatDoorM11

/-
  spec.Contains, spec.Overlaps.
-/
namespace Go.Proofs.YtnehofekgnbelaaGreatDoor
open Go.RowKit
set_option linter.unusedVariables false
set_option maxRecDepth 100000
set_option maxHeartbeats 400000

theorem specContains_any (s0 s1 s2 s3 s : ByteArray) (R : RIn) (b : Ad) (w : World) (h : RTexts s0 s1 s2 s3 R) (hk : ROk R) (hg : RGuard R) (hnum : numOK 128 (cutL 47 (bl s0)).2.1 = true) (hb : readL (bl s) = some b) :
    Calls Tryz.prog 21 #[.agg #[.string s0, .string s1, .string s2, .string s3], .string s] w (BelowPost w (.bool (okR R && hasB R.a (startOf R) (lastOf R) b))) := by
  have HS := Lib.hid (fun w => spanOf_any s0 s1 s2 s3 R w h hk hg hnum)
  have HR := Lib.hid hb
  have hs := addr_length hb
  clear h hk hg hnum hb
  go_enter Tryz.func21, Tryz.ntmps21
  go_wp2_with fail
  refine (HS.out _).mono ?_
  rintro e w1 ⟨net, free, st, en, gw, rfl, hv, hb1⟩
  have HV := Lib.hid hv
  have HB1 := Lib.hid (below_tr ((Below.refl w.heap.size w).alloc (Nat.le_refl _) _) hb1)
  clear hv hb1
  unfold spanv
  go_wp2_with fail
  refine (read_any s _ (by omega)).mono ?_
  rintro e w2 ⟨a, ok, rfl, ha, hn, hb2⟩
  have ha2 : ok = true ∧ a = b := by
    rw [HR.out] at ha
    cases ok with
    | true => rw [if_pos rfl] at ha; exact ⟨rfl, (Option.some.inj ha).symm⟩
    | false => rw [if_neg (by decide)] at ha; cases ha
  obtain ⟨rfl, rfl⟩ := ha2
  have hrow := row_on hb2 (heap_alloc_new _ _)
  have hlt : w1.heap.size < w2.heap.size := (Array.getElem?_eq_some_iff.1 hrow).1
  have HB2 := Lib.hid (below_tr (HB1.out.alloc HB1.out.size _) hb2)
  have g0 : w2.cell? ⟨w1.heap.size, 0, none⟩ = some (.bool net.six) := cell_of_row w2 _ 0 _ _ _ hrow
  have g1 : w2.cell? ⟨w1.heap.size, 1, none⟩ = some (.int .u32 net.n) := cell_of_row w2 _ 1 _ _ _ hrow
  have g2 : w2.cell? ⟨w1.heap.size, 2, none⟩ = some (.int .i64 free) := cell_of_row w2 _ 2 _ _ _ hrow
  have g3 : w2.cell? ⟨w1.heap.size, 3, none⟩ = some (.bool st.six) := cell_of_row w2 _ 3 _ _ _ hrow
  have g4 : w2.cell? ⟨w1.heap.size, 4, none⟩ = some (.int .u32 st.n) := cell_of_row w2 _ 4 _ _ _ hrow
  have g5 : w2.cell? ⟨w1.heap.size, 5, none⟩ = some (.bool en.six) := cell_of_row w2 _ 5 _ _ _ hrow
  have g6 : w2.cell? ⟨w1.heap.size, 6, none⟩ = some (.int .u32 en.n) := cell_of_row w2 _ 6 _ _ _ hrow
  have g7 : w2.cell? ⟨w1.heap.size, 7, none⟩ = some (.bool gw.six) := cell_of_row w2 _ 7 _ _ _ hrow
  have g8 : w2.cell? ⟨w1.heap.size, 8, none⟩ = some (.int .u32 gw.n) := cell_of_row w2 _ 8 _ _ _ hrow
  clear ha hb2 hrow
  unfold adv
  cases hok : okR R with
  | false =>
    have HOK := Lib.hid hok
    clear hok
    go_wp2_with fail
    go_ret
    exact ⟨by rw [HOK.out]; rfl, HB2.out.alloc HB2.out.size _⟩
  | true =>
    have E5 := Lib.hid (And.intro hok (HV.out hok))
    clear hok
    go_wp2_with fail
    refine (has_any net st en gw a free _).mono ?_
    rintro e w3 ⟨rfl, hb3⟩
    have HB3 := Lib.hid (below_tr (HB2.out.alloc HB2.out.size _) hb3)
    clear hb3
    go_wp2_with fail
    go_ret
    refine ⟨?_, HB3.out⟩
    obtain ⟨hok, rfl, rfl, rfl, rfl, rfl⟩ := E5.out
    rw [hok]
    rfl


end Go.Proofs.YtnehofekgnbelaaGreatDoor

/-
  laws.FnContains and laws.FnOverlaps return true.
-/
namespace Go.Proofs.YtnehofekgnbelaaGreatDoor
open Go.RowKit
set_option linter.unusedVariables false
set_option maxRecDepth 100000
set_option maxHeartbeats 2000000

instance kinMet (w : World) : Nonempty (Kin w) := ⟨⟨w, Below.refl w.heap.size w⟩⟩

theorem meetB_comm (n s e n' s' e' : Ad) : meetB n s e n' s' e' = meetB n' s' e' n s e := by
  unfold meetB
  rw [Bool.eq_iff_iff]
  simp only [Bool.and_eq_true, decide_eq_true_eq, beq_iff_eq]
  constructor <;> (rintro ⟨⟨h1, h2⟩, h3⟩; exact ⟨⟨h1.symm, h3⟩, h2⟩)
theorem contains_same {R : RIn} (hg : RGuard R) (b : Ad) : (okR R && contR R b) = (okR R && hasB R.a (startOf R) (lastOf R) b) := by
  cases h : okR R with
  | false => rfl
  | true => rw [contR_law hg h b]
theorem overlaps_same {R Q : RIn} (hg : RGuard R) (hg' : RGuard Q) : (okR R && okR Q && ovrR R Q) = (okR R && okR Q && meetB R.a (startOf R) (lastOf R) Q.a (startOf Q) (lastOf Q)) := by
  cases h : okR R with
  | false => rfl
  | true =>
    cases h' : okR Q with
    | false => rfl
    | true => rw [ovrR_law hg h hg' h']
theorem overlaps_turned {R Q : RIn} (hg : RGuard R) (hg' : RGuard Q) : (okR Q && okR R && ovrR Q R) = (okR R && okR Q && meetB R.a (startOf R) (lastOf R) Q.a (startOf Q) (lastOf Q)) := by
  rw [overlaps_same hg' hg, meetB_comm, Bool.and_comm (okR Q)]



end Go.Proofs.YtnehofekgnbelaaGreatDoor

/-
  spec.Canonical.
-/
import Derived.Test.YtnehofekgnbelaaGreatDoorCanStr
import Derived.Test.YtnehofekgnbelaaGreatDoorM29
namespace Go.Proofs.YtnehofekgnbelaaGreatDoor
open Go.RowKit
set_option linter.unusedVariables false
set_option maxRecDepth 100000
set_option maxHeartbeats 1000000

theorem specCanonical_any (s0 s1 s2 s3 : ByteArray) (R : RIn) (w : World) (h : RTexts s0 s1 s2 s3 R) (hk : ROk R) (hg : RGuard R) (hnum : numOK 128 (cutL 47 (bl s0)).2.1 = true) :
    Calls Tryz.prog 10 #[.agg #[.string s0, .string s1, .string s2, .string s3]] w (BelowPost w (.tuple #[canV R, .bool (okR R)])) := by
  have HC := Lib.hid (fun w => spanOf_any s0 s1 s2 s3 R w h hk hg hnum)
  have HK := Lib.hid hk
  have HN := Lib.hid (bs_of (net_text h.net hnum))
  clear h hk hg hnum
  go_enter Tryz.func10, Tryz.ntmps10
  go_wp2_with fail
  refine (HC.out _).mono ?_
  rintro e w1 ⟨net, free, st, en, gw, rfl, hv, hb1⟩
  obtain ⟨k0, k1, kw⟩ := two_kept' hb1
  obtain ⟨r0, r1, r2, r3⟩ := row4_facts k1
  obtain ⟨b0, _, _, _⟩ := row4_facts k0
  have z0 := frozen_of_row w1 _ 0 _ _ k1
  have z1 := frozen_of_row w1 _ 1 _ _ k1
  have z2 := frozen_of_row w1 _ 2 _ _ k1
  have z3 := frozen_of_row w1 _ 3 _ _ k1
  have hlt : w.heap.size + 1 < w1.heap.size := (Array.getElem?_eq_some_iff.1 k1).1
  have HVV := Lib.hid hv
  have HKW := Lib.hid kw
  have HK1 := Lib.hid k1
  clear hv hb1 k0 k1 kw HC
  unfold spanv
  cases hok : okR R with
  | false =>
    have HV := Lib.hid (show canV R = .agg #[.string ⟨#[]⟩, .string ⟨#[]⟩, .string ⟨#[]⟩, .string ⟨#[]⟩] by simp [canV, canA, canB, canC, canD, hok])
    have HOK := Lib.hid hok
    clear hok
    go_wp2_with fail
    refine bodyPost_ret (v := .tuple #[.agg #[.string ⟨#[]⟩, .string ⟨#[]⟩, .string ⟨#[]⟩, .string ⟨#[]⟩], .bool false]) (by simp [hlt, results, Tryz.results10, go_sem, r0, r1, r2, r3]) rfl ⟨by rw [HV.out, HOK.out], ?_⟩
    have hsz := HKW.out.size
    refine Below.alloc (below_set4 HKW.out ?_ _ _ _ _) ?_ _
    · omega
    · simpa using hsz
  | true =>
    have HV := Lib.hid (show canV R = .agg #[.string s0, .string ⟨(startOf R).text.toArray⟩, .string ⟨(lastOf R).text.toArray⟩, .string ⟨(gateOf R).text.toArray⟩] by rw [HN.out]; simp [canV, canA, canB, canC, canD, hok])
    obtain ⟨rfl, rfl, rfl, rfl, rfl⟩ := HVV.out hok
    have hse := canon_ok HK.out.oa HK.out.room HK.out.k1 HK.out.k2 hok
    have hg := gate_ok HK.out hok
    have HT := Lib.hid (fun (a : Ad) (ok : a.ok) (W : World) => (text_any a W (by unfold Ad.ok at ok; split at ok <;> omega)).mono (fun e w' h => text_fix h))
    have HS := Lib.hid (HT.out _ hse.1)
    have HE := Lib.hid (HT.out _ hse.2)
    have HG := Lib.hid (HT.out _ hg)
    unfold adv at HS HE HG
    generalize (startOf R).text = ts at HV HS
    generalize (lastOf R).text = te at HV HE
    generalize (gateOf R).text = tg at HV HG
    have HOK := Lib.hid hok
    clear hok hse hg HVV HN HT
    go_wp2_with fail
    have hn1 : (w1.alloc (.cells #[.bool R.a.six, .int .u32 R.a.n, .int .i64 R.free, .bool (startOf R).six, .int .u32 (startOf R).n, .bool (lastOf R).six, .int .u32 (lastOf R).n, .bool (gateOf R).six, .int .u32 (gateOf R).n] 63)).heap[w1.heap.size]? = some (.cells #[.bool R.a.six, .int .u32 R.a.n, .int .i64 R.free, .bool (startOf R).six, .int .u32 (startOf R).n, .bool (lastOf R).six, .int .u32 (lastOf R).n, .bool (gateOf R).six, .int .u32 (gateOf R).n] 63) := heap_alloc_new w1 _
    have hbA : Below w1.heap.size w1 (w1.alloc (.cells #[.bool R.a.six, .int .u32 R.a.n, .int .i64 R.free, .bool (startOf R).six, .int .u32 (startOf R).n, .bool (lastOf R).six, .int .u32 (lastOf R).n, .bool (gateOf R).six, .int .u32 (gateOf R).n] 63)) := (Below.refl _ _).alloc (Nat.le_refl _) _
    have g0 := kin_cell ((hbA.cell (p := ⟨w.heap.size, 0, none⟩) (by show w.heap.size < w1.heap.size; omega)).trans b0)
    have c3 := kin_cell (cell_of_row _ _ 3 _ _ _ hn1)
    have c4 := kin_cell (cell_of_row _ _ 4 _ _ _ hn1)
    have c5 := kin_cell (cell_of_row _ _ 5 _ _ _ hn1)
    have c6 := kin_cell (cell_of_row _ _ 6 _ _ _ hn1)
    have c7 := kin_cell (cell_of_row _ _ 7 _ _ _ hn1)
    have c8 := kin_cell (cell_of_row _ _ 8 _ _ _ hn1)
    have HROW := Lib.hid (fun x => kin_row ((hbA.block _ hlt).trans HK1.out) x)
    have HB := Lib.hid (fun x : Kin (w1.alloc (.cells #[.bool R.a.six, .int .u32 R.a.n, .int .i64 R.free, .bool (startOf R).six, .int .u32 (startOf R).n, .bool (lastOf R).six, .int .u32 (lastOf R).n, .bool (gateOf R).six, .int .u32 (gateOf R).n] 63)) => below_tr hbA x.ok)
    have HSX := Lib.hid (fun x : Kin (w1.alloc (.cells #[.bool R.a.six, .int .u32 R.a.n, .int .i64 R.free, .bool (startOf R).six, .int .u32 (startOf R).n, .bool (lastOf R).six, .int .u32 (lastOf R).n, .bool (gateOf R).six, .int .u32 (gateOf R).n] 63)) => kin_call (fun _ _ h => h) (HS.out x.on))
    have HEX := Lib.hid (fun x : Kin (w1.alloc (.cells #[.bool R.a.six, .int .u32 R.a.n, .int .i64 R.free, .bool (startOf R).six, .int .u32 (startOf R).n, .bool (lastOf R).six, .int .u32 (lastOf R).n, .bool (gateOf R).six, .int .u32 (gateOf R).n] 63)) => kin_call (fun _ _ h => h) (HE.out x.on))
    have HGX := Lib.hid (fun x : Kin (w1.alloc (.cells #[.bool R.a.six, .int .u32 R.a.n, .int .i64 R.free, .bool (startOf R).six, .int .u32 (startOf R).n, .bool (lastOf R).six, .int .u32 (lastOf R).n, .bool (gateOf R).six, .int .u32 (gateOf R).n] 63)) => kin_call (fun _ _ h => h) (HG.out x.on))
    clear hn1 hbA HS HE HG
    refine kin_tail 12 (by kernel_rfl) (by kernel_rfl) ?_
    simp only [List.take_succ_cons, List.take_zero]
    repeat (go_big_quiet_step (first
      | (go_at_call 27; first | with_reducible exact HSX.out _ | with_reducible exact HEX.out _ | with_reducible exact HGX.out _)))
    refine wpQuiet_nil ?_
    intro _ hw'
    obtain ⟨x, rfl⟩ := hw'
    simp only [List.drop_succ_cons, List.drop_zero]
    have hrow := HROW.out x
    have HBX := Lib.hid (below_tr HKW.out (HB.out x))
    clear g0 c3 c4 c5 c6 c7 c8 HROW HB HSX HEX HGX r0 r1 r2 r3 z0 z1 z2 z3 HK1
    generalize x.on = wx at hrow HBX ⊢
    obtain ⟨r0, r1, r2, r3⟩ := row4_facts hrow
    have z0 := frozen_of_row wx _ 0 _ _ hrow
    have z1 := frozen_of_row wx _ 1 _ _ hrow
    have z2 := frozen_of_row wx _ 2 _ _ hrow
    have z3 := frozen_of_row wx _ 3 _ _ hrow
    have HROW := Lib.hid hrow
    clear hrow
    go_wp2_with fail
    refine bodyPost_ret (v := .tuple #[.agg #[.string s0, .string ⟨ts.toArray⟩, .string ⟨te.toArray⟩, .string ⟨tg.toArray⟩], .bool true]) (by simp [results, Tryz.results10, go_sem, r0, r1, r2, r3]) rfl ⟨by rw [HV.out, HOK.out], ?_⟩
    exact below_set4 HBX.out (by omega) _ _ _ _

end Go.Proofs.YtnehofekgnbelaaGreatDoor

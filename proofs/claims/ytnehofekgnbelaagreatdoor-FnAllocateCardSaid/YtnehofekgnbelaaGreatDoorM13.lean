/-
  Texts put together: Equal, IPMask, MaskAny, ParseC.
-/
import Derived.Test.YtnehofekgnbelaaGreatDoorM12
import Derived.RegionTactic
import Derived.Deep.RegionHeld3
import Derived.Test.YtnehofekgnbelaaGreatDoorM11

/-
  net's equal, v4InV6Prefix, IP.Equal.
-/
namespace Go.Proofs.YtnehofekgnbelaaGreatDoor
open Go.RowKit
set_option linter.unusedVariables false
set_option maxRecDepth 100000
set_option maxHeartbeats 1000000

theorem eq_from {p q : List UInt8} {k : Nat} (hp : k < p.length) (hq : k < q.length) : (p.drop k = q.drop k) ↔ (p.getD k 0 = q.getD k 0 ∧ p.drop (k + 1) = q.drop (k + 1)) := by
  rw [drop_getD p k hp, drop_getD q k hq, List.cons.injEq]

theorem equal_any (vp vq : Value) (p q : List UInt8) (w : World) (hp : SlAt w vp (ipv p)) (hq : SlAt w vq (ipv q)) (hnp : p.length ≤ 1000000) (hnq : q.length ≤ 1000000) :
    Calls Tryz.prog 98 #[vp, vq] w (BelowPost w (.bool (decide (p = q)))) := by
  obtain ⟨ap, cp, rfl, _⟩ := hp.len
  obtain ⟨aq, cq, rfl, _⟩ := hq.len
  rw [ipv_length] at hp hq
  rw [ipv_length, ipv_length]
  by_cases hl : p.length = q.length
  · generalize hn : q.length = n
    rw [hn] at hl hq
    rw [hl] at hp ⊢
    have hcells : 0 < n → ∃ bp op bq oq, ap = some ⟨bp, op, none⟩ ∧ aq = some ⟨bq, oq, none⟩ ∧ n ≤ cp ∧ n ≤ cq ∧ (∀ i, i < n → w.cell? ⟨bp, op + i, none⟩ = some (.int .u8 (p.getD i 0).toNat)) ∧ (∀ i, i < n → w.cell? ⟨bq, oq + i, none⟩ = some (.int .u8 (q.getD i 0).toNat)) ∧ bp < w.heap.size ∧ bq < w.heap.size := by
      intro h0
      obtain ⟨bp, op, cp', h1, h2, h3, h4, h5⟩ := IPAt.out ⟨hp, by omega⟩
      obtain ⟨bq, oq, cq', g1, g2, g3, g4, g5⟩ := IPAt.out ⟨hq, by omega⟩
      simp only [Value.slice.injEq] at h1 g1
      obtain ⟨rfl, _, rfl⟩ := h1
      obtain ⟨rfl, _, rfl⟩ := g1
      rw [hl] at h3 h5
      rw [hn] at g3 g5
      exact ⟨bp, op, bq, oq, rfl, rfl, h3, g3, h5, g5, h2, g2⟩
    have HL := Lib.hid hl
    have HN := Lib.hid hn
    have HC := Lib.hid hcells
    have hn6 : n ≤ 1000000 := by omega
    clear hl hn hcells hp hq hnp hnq
    go_enter Tryz.func98, Tryz.ntmps98
    go_wp2
    go_loopw [13] (fun i wr => ∃ k : Nat, k ≤ n ∧ i = .int .i64 k ∧ Hid ((p.drop k = q.drop k ↔ p = q) ∧ Below w.heap.size w wr)) (fun i _ => n - (intOf i).toNat)
    case atStart => exact ⟨0, Nat.zero_le _, rfl, Iff.rfl, Below.refl _ _⟩
    case round =>
      obtain ⟨k, hk, rfl, hr⟩ := hrel
      by_cases hlt : k < n
      · obtain ⟨bp, op, bq, oq, rfl, rfl, hcp, hcq, hxp, hxq, hbp, hbq⟩ := HC.out (by omega)
        have h1 := (hr.out.2.cell hbp).trans (hxp k hlt)
        have h2 := (hr.out.2.cell hbq).trans (hxq k hlt)
        have hst := eq_from (p := p) (q := q) (k := k) (by rw [HL.out]; exact hlt) (by rw [HN.out]; exact hlt)
        generalize p.getD k 0 = x at h1 hst
        generalize q.getD k 0 = y at h2 hst
        have HS := Lib.hid hst
        clear hxp hxq hst
        by_cases hxy : x = y
        · have t1 : ((x.toNat : Int) != y.toNat) = false := by rw [hxy]; simp
          have HE := Lib.hid hxy
          clear hxy
          go_wp2
          go_quiet (fail)
          go_wp2
          go_roundw
          case rel => exact ⟨k + 1, by omega, by go_num, by rw [← hr.out.1, HS.out]; exact ⟨fun h => ⟨HE.out, h⟩, fun h => h.2⟩, below_drewN hr.out.2 _⟩
          case measure => simp [intOf]; omega
        · have t1 : ((x.toNat : Int) != y.toNat) = true := by
            rw [bne_iff_ne]
            intro h
            exact hxy (UInt8.toNat_inj.1 (by omega))
          have HE := Lib.hid hxy
          clear hxy
          go_wp2
          go_quiet (fail)
          go_wp2
          go_ret
          exact ⟨ret_bool (by rw [eq_comm, decide_eq_false_iff_not, ← hr.out.1, HS.out]; exact fun h => HE.out h.1), below_drewN hr.out.2 _⟩
      · obtain rfl : k = n := by omega
        go_wp2
        go_ret
        exact ⟨ret_bool (by rw [eq_comm, decide_eq_true_eq, ← hr.out.1, List.drop_of_length_le (by rw [HL.out]; exact Nat.le_refl _), List.drop_of_length_le (by rw [HN.out]; exact Nat.le_refl _)]), hr.out.2⟩
  · have hne : decide (p = q) = false := decide_eq_false fun h => hl (by rw [h])
    rw [hne]
    generalize p.length = n at hl hnp hp ⊢
    generalize q.length = m at hl hnq hq ⊢
    have t1 : ((n : Int) != m) = true := by rw [bne_iff_ne]; omega
    clear hp hq hne
    go_enter Tryz.func98, Tryz.ntmps98
    go_wp2
    go_ret
    exact ⟨rfl, Below.refl _ _⟩

theorem prefix_any (w : World) :
    Calls Tryz.prog 99 #[] w (fun e w' => e = .returned (.slice (some ⟨w.heap.size, 0, none⟩) 12 12) ∧ SlAt w' (.slice (some ⟨w.heap.size, 0, none⟩) 12 12) (ipv pre4) ∧ Below w.heap.size w w') := by
  go_enter Tryz.func99, Tryz.ntmps99
  go_wp2_with fail
  go_ret
  refine ⟨rfl, ?_, (Below.refl w.heap.size w).alloc (Nat.le_refl _) _⟩
  exact SlAt.mk (xs := ipv pre4) (by decide) (by unfold maxLen; omega) fun i hi => by
    have hi' : i < 12 := hi
    obtain rfl | rfl | rfl | rfl | rfl | rfl | rfl | rfl | rfl | rfl | rfl | rfl : i = 0 ∨ i = 1 ∨ i = 2 ∨ i = 3 ∨ i = 4 ∨ i = 5 ∨ i = 6 ∨ i = 7 ∨ i = 8 ∨ i = 9 ∨ i = 10 ∨ i = 11 := by omega
    all_goals simp [ipv, u8v, pre4, go_sem]

/-- Addresses of the same length of bytes. -/
theorem Equal_same (u v : Value) (p q : List UInt8) (w : World) (hp : IPAt w u p) (hq : IPAt w v q) (hl : p.length = q.length) (hn : p.length ≤ 16) :
    Calls Tryz.prog 68 #[u, v] w (BelowPost w (.bool (decide (p = q)))) := by
  have HE := Lib.hid (equal_any u v p q w hp.1 hq.1 (by omega) (by omega))
  obtain ⟨bp, op, cp, rfl, _⟩ := hp.out
  obtain ⟨bq, oq, cq, rfl, _⟩ := hq.out
  rw [← hl] at HE ⊢
  generalize p.length = n at HE hn ⊢
  generalize decide (p = q) = r at HE ⊢
  clear hp hq hl
  go_enter Tryz.func68, Tryz.ntmps68
  go_wp2_with fail
  refine HE.out.mono ?_
  rintro e w2 ⟨rfl, hb⟩
  have HB := Lib.hid hb
  clear hb
  go_wp2_with fail
  go_ret
  exact ⟨rfl, HB.out⟩

end Go.Proofs.YtnehofekgnbelaaGreatDoor

/-
  net's IP.Mask.
-/
namespace Go.Proofs.YtnehofekgnbelaaGreatDoor
open Go.RowKit
set_option linter.unusedVariables false
set_option maxRecDepth 100000
set_option maxHeartbeats 1000000

/-- The cells of a new row of bytes. -/
def zcells (n : Nat) : Array Value := madeCells #[.int .u8 0] n
theorem zcells_row (w : World) (n : Nat) : RowAt (w.alloc (.cells (zcells n) 5)) w.heap.size (List.replicate n 0) := by
  refine ⟨_, heap_alloc_new w _, ?_⟩
  unfold zcells
  rw [toList_madeCells_one, List.length_replicate]
  simp [ipv, u8v]
attribute [irreducible] zcells
theorem run_make_bytes (t : TypeId) (ht : Tryz.prog.underlying t = some (.slice 5)) (n : Nat) (hn : n ≤ 1000) (w : World) :
    (Instr.makeSlice t (.int .i64 (n : Int)) (.int .i64 (n : Int))).run Tryz.prog w = .ok (.slice (some ⟨w.heap.size, 0, none⟩) n n) (w.alloc (.cells (zcells n) 5)) := by
  obtain ⟨i0, hi, hz0, hz1, hz2⟩ := info_parts info5
  have h := run_makeSlice (P := Tryz.prog) w t 5 i0 (.int .u8 0) ht hi hz0 .i64 .i64 (n : Int) (n : Int) (by omega) (Int.le_refl _) (by rw [hz1]; simp; omega) (by rw [hz2]; omega) (by omega)
  rw [hz1, Nat.mul_one, show (Value.int .u8 0).cells = #[.int .u8 0] from rfl, Int.toNat_natCast] at h
  unfold zcells
  exact h

theorem FillRel.drew {w wr : World} {g : Nat} {l : List UInt8} {i : Nat} (h : FillRel w g l i wr) : FillRel w g l i wr.drew := by
  obtain ⟨⟨cur, hg, ht⟩, hb⟩ := h
  exact ⟨⟨cur, hg, ht⟩, below_drewN hb 1⟩
theorem FillRel.start {w w1 : World} (hb : Below w.heap.size w w1) (l : List UInt8) (n : Nat) (hn : l.length = n) : FillRel w w1.heap.size l 0 (w1.alloc (.cells (zcells n) 5)) := by
  subst hn
  exact ⟨by rw [fill_zero]; exact zcells_row w1 _, hb.alloc hb.size _⟩

/-- Where the bytes of the address and of the mask lie. -/
structure MaskIn (w : World) (b o m mo : Nat) (W : Nat) (a : Ad) (free : Nat) : Prop where
  ip : ∀ i, i < W → w.cell? ⟨b, o + i, none⟩ = some (.int .u8 (a.brief.getD i 0).toNat)
  mask : ∀ i, i < W → w.cell? ⟨m, mo + i, none⟩ = some (.int .u8 ((a.mask free).getD i 0).toNat)
  lb : b < w.heap.size
  lm : m < w.heap.size

theorem mask_brief4 (b o cap m mo mcap : Nat) (a : Ad) (free : Nat) (w : World) (ok : a.ok) (hf : free ≤ a.room) (hw : a.width = 4) (hi : MaskIn w b o m mo 4 a free) (hc1 : 4 ≤ cap) (hc2 : cap ≤ 9223372036854775807) (hm1 : 4 ≤ mcap) (hm2 : mcap ≤ 9223372036854775807) :
    Calls Tryz.prog 82 #[.slice (some ⟨b, o, none⟩) 4 cap, .slice (some ⟨m, mo, none⟩) 4 mcap] w (IPPost w (a.net free).brief) := by
  have HAND := Lib.hid (fun i (h : i < 4) => and_ad a free i ok hf (by rw [hw]; exact h))
  have HL := Lib.hid (show (a.net free).brief.length = 4 by rw [Ad.brief_length]; exact hw)
  have HI := Lib.hid hi
  have hmk : ∀ w, (Instr.makeSlice 67 (.int .i64 4) (.int .i64 4)).run Tryz.prog w = .ok (.slice (some ⟨w.heap.size, 0, none⟩) 4 4) (w.alloc (.cells (zcells 4) 5)) := fun w => run_make_bytes 67 Tryz.underlying67 4 (by omega) w
  clear ok hf hw hi
  go_enter Tryz.func82, Tryz.ntmps82
  go_wp2_with fail
  go_region
  all_goals
    go_wp2_with fail
    have HST := Lib.hid (FillRel.drew (FillRel.start (w := w) (Below.refl _ _) (a.net free).brief 4 HL.out))
    have HG0 := Lib.hid (Nat.le_refl w.heap.size)
    clear hmk
    go_loopw [7] (fun i wr => ∃ j : Nat, j ≤ 4 ∧ i = .int .i64 j ∧ Hid (FillRel w w.heap.size (a.net free).brief j wr)) (fun i _ => 4 - (intOf i).toNat)
    case atStart => exact ⟨0, by omega, rfl, HST.out⟩
    case round =>
      obtain ⟨j, hj, rfl, hr⟩ := hrel
      by_cases hlt : j < 4
      · have cj := hr.out.1.cell j (by rw [fill_length _ _ (by rw [HL.out]; omega), HL.out]; exact hlt)
        have zj := hr.out.1.free j
        have ci := (hr.out.2.cell (p := ⟨b, o + j, none⟩) HI.out.lb).trans (HI.out.ip j hlt)
        have cm := (hr.out.2.cell (p := ⟨m, mo + j, none⟩) HI.out.lm).trans (HI.out.mask j hlt)
        have han := HAND.out j hlt
        have HN := Lib.hid (hr.out.next HG0.out (by rw [HL.out]; exact hlt) _ rfl)
        generalize (fill (a.net free).brief j).getD j 0 = old at cj
        generalize hx : (a.net free).brief.getD j 0 = x at han HN
        generalize a.brief.getD j 0 = x1 at ci han
        generalize (a.mask free).getD j 0 = x2 at cm han
        clear hx
        have q1 : (0 : Int) ≤ (j : Int) := by omega
        have q2 : (j : Int) < 4 := by omega
        go_wp2_with fail
        go_region
        all_goals
          go_wp2_with fail
          go_roundw
          case rel => exact ⟨j + 1, by omega, by go_num, HN.out.drew⟩
          case measure => simp [intOf]; omega
      · obtain rfl : j = 4 := by omega
        have HD := Lib.hid (FillRel.done (cap := 4) (l := (a.net free).brief) (w := w) (g := w.heap.size) (by rw [HL.out]; exact hr.out) (by rw [HL.out]; omega) (by rw [HL.out]; omega) (by unfold maxLen; omega))
        rw [HL.out] at HD
        go_wp2_with fail
        go_ret
        exact ⟨_, rfl, HD.out.1, HD.out.2⟩
theorem mask_brief16 (b o cap m mo mcap : Nat) (a : Ad) (free : Nat) (w : World) (ok : a.ok) (hf : free ≤ a.room) (hw : a.width = 16) (hi : MaskIn w b o m mo 16 a free) (hc1 : 16 ≤ cap) (hc2 : cap ≤ 9223372036854775807) (hm1 : 16 ≤ mcap) (hm2 : mcap ≤ 9223372036854775807) :
    Calls Tryz.prog 82 #[.slice (some ⟨b, o, none⟩) 16 cap, .slice (some ⟨m, mo, none⟩) 16 mcap] w (IPPost w (a.net free).brief) := by
  have HAND := Lib.hid (fun i (h : i < 16) => and_ad a free i ok hf (by rw [hw]; exact h))
  have HL := Lib.hid (show (a.net free).brief.length = 16 by rw [Ad.brief_length]; exact hw)
  have HI := Lib.hid hi
  have hmk : ∀ w, (Instr.makeSlice 67 (.int .i64 16) (.int .i64 16)).run Tryz.prog w = .ok (.slice (some ⟨w.heap.size, 0, none⟩) 16 16) (w.alloc (.cells (zcells 16) 5)) := fun w => run_make_bytes 67 Tryz.underlying67 16 (by omega) w
  clear ok hf hw hi
  go_enter Tryz.func82, Tryz.ntmps82
  go_wp2_with fail
  go_region
  all_goals
    go_wp2_with fail
    have HST := Lib.hid (FillRel.drew (FillRel.start (w := w) (Below.refl _ _) (a.net free).brief 16 HL.out))
    have HG0 := Lib.hid (Nat.le_refl w.heap.size)
    clear hmk
    go_loopw [7] (fun i wr => ∃ j : Nat, j ≤ 16 ∧ i = .int .i64 j ∧ Hid (FillRel w w.heap.size (a.net free).brief j wr)) (fun i _ => 16 - (intOf i).toNat)
    case atStart => exact ⟨0, by omega, rfl, HST.out⟩
    case round =>
      obtain ⟨j, hj, rfl, hr⟩ := hrel
      by_cases hlt : j < 16
      · have cj := hr.out.1.cell j (by rw [fill_length _ _ (by rw [HL.out]; omega), HL.out]; exact hlt)
        have zj := hr.out.1.free j
        have ci := (hr.out.2.cell (p := ⟨b, o + j, none⟩) HI.out.lb).trans (HI.out.ip j hlt)
        have cm := (hr.out.2.cell (p := ⟨m, mo + j, none⟩) HI.out.lm).trans (HI.out.mask j hlt)
        have han := HAND.out j hlt
        have HN := Lib.hid (hr.out.next HG0.out (by rw [HL.out]; exact hlt) _ rfl)
        generalize (fill (a.net free).brief j).getD j 0 = old at cj
        generalize hx : (a.net free).brief.getD j 0 = x at han HN
        generalize a.brief.getD j 0 = x1 at ci han
        generalize (a.mask free).getD j 0 = x2 at cm han
        clear hx
        have q1 : (0 : Int) ≤ (j : Int) := by omega
        have q2 : (j : Int) < 16 := by omega
        go_wp2_with fail
        go_region
        all_goals
          go_wp2_with fail
          go_roundw
          case rel => exact ⟨j + 1, by omega, by go_num, HN.out.drew⟩
          case measure => simp [intOf]; omega
      · obtain rfl : j = 16 := by omega
        have HD := Lib.hid (FillRel.done (cap := 16) (l := (a.net free).brief) (w := w) (g := w.heap.size) (by rw [HL.out]; exact hr.out) (by rw [HL.out]; omega) (by rw [HL.out]; omega) (by unfold maxLen; omega))
        rw [HL.out] at HD
        go_wp2_with fail
        go_ret
        exact ⟨_, rfl, HD.out.1, HD.out.2⟩
theorem mask_long4 (b o cap m mo mcap : Nat) (a : Ad) (free : Nat) (w : World) (ok : a.ok) (hf : free ≤ a.room) (hw : a.width = 4) (hi : MaskIn w b (o + 12) m mo 4 a free) (hpre : SlAt w (.slice (some ⟨b, o, none⟩) 12 cap) (ipv pre4)) (hc1 : 16 ≤ cap) (hc2 : cap ≤ 9223372036854775807) (hm1 : 4 ≤ mcap) (hm2 : mcap ≤ 9223372036854775807) :
    Calls Tryz.prog 82 #[.slice (some ⟨b, o, none⟩) 16 cap, .slice (some ⟨m, mo, none⟩) 4 mcap] w (IPPost w (a.net free).brief) := by
  have HAND := Lib.hid (fun i (h : i < 4) => and_ad a free i ok hf (by rw [hw]; exact h))
  have HL := Lib.hid (show (a.net free).brief.length = 4 by rw [Ad.brief_length]; exact hw)
  have HI := Lib.hid hi
  have HPRE := Lib.hid hpre
  have hmk : ∀ w, (Instr.makeSlice 67 (.int .i64 4) (.int .i64 4)).run Tryz.prog w = .ok (.slice (some ⟨w.heap.size, 0, none⟩) 4 4) (w.alloc (.cells (zcells 4) 5)) := fun w => run_make_bytes 67 Tryz.underlying67 4 (by omega) w
  have k1 : (12 : Int) ≤ (cap : Int) := by omega
  have k2 : 12 ≤ cap := by omega
  clear ok hf hw hi hpre
  go_enter Tryz.func82, Tryz.ntmps82
  go_wp2_with fail
  go_region_held3 (fun _ => True) (exact trivial) (first | (go_at_call 99; refine (prefix_any _).mono ?_; rintro e w2 ⟨rfl, hs2, hb2⟩; have HS2 := Lib.hid hs2; have HB2 := Lib.hid (below_tr (below_drewN (Below.refl w.heap.size w) 1) hb2); have HP2 := Lib.hid (HPRE.out.keep HB2.out); clear hs2 hb2) | (go_at_call 98; refine (equal_any _ _ pre4 pre4 _ HP2.out HS2.out (by decide) (by decide)).mono ?_; rw [decide_eq_true rfl]; rintro e w3 ⟨rfl, hb3⟩; have HB3 := Lib.hid (below_tr HB2.out hb3); clear hb3))
  go_wp2_with fail
  have HST := Lib.hid (FillRel.start (w := w) HB3.out (a.net free).brief 4 HL.out)
  have HG0 := Lib.hid (HB3.out.size)
  clear hmk
  go_loopw [7] (fun i wr => ∃ j : Nat, j ≤ 4 ∧ i = .int .i64 j ∧ Hid (FillRel w w3.heap.size (a.net free).brief j wr)) (fun i _ => 4 - (intOf i).toNat)
  case atStart => exact ⟨0, by omega, rfl, HST.out⟩
  case round =>
    obtain ⟨j, hj, rfl, hr⟩ := hrel
    by_cases hlt : j < 4
    · have cj := hr.out.1.cell j (by rw [fill_length _ _ (by rw [HL.out]; omega), HL.out]; exact hlt)
      have zj := hr.out.1.free j
      have ci := (hr.out.2.cell (p := ⟨b, o + 12 + j, none⟩) HI.out.lb).trans (HI.out.ip j hlt)
      have cm := (hr.out.2.cell (p := ⟨m, mo + j, none⟩) HI.out.lm).trans (HI.out.mask j hlt)
      have han := HAND.out j hlt
      have HN := Lib.hid (hr.out.next HG0.out (by rw [HL.out]; exact hlt) _ rfl)
      generalize (fill (a.net free).brief j).getD j 0 = old at cj
      generalize hx : (a.net free).brief.getD j 0 = x at han HN
      generalize a.brief.getD j 0 = x1 at ci han
      generalize (a.mask free).getD j 0 = x2 at cm han
      clear hx
      have q1 : (0 : Int) ≤ (j : Int) := by omega
      have q2 : (j : Int) < 4 := by omega
      go_wp2_with fail
      go_region
      all_goals
        go_wp2_with fail
        go_roundw
        case rel => exact ⟨j + 1, by omega, by go_num, HN.out.drew⟩
        case measure => simp [intOf]; omega
    · obtain rfl : j = 4 := by omega
      have HD := Lib.hid (FillRel.done (cap := 4) (l := (a.net free).brief) (w := w) (g := w3.heap.size) (by rw [HL.out]; exact hr.out) (by rw [HL.out]; omega) (by rw [HL.out]; omega) (by unfold maxLen; omega))
      rw [HL.out] at HD
      go_wp2_with fail
      go_ret
      exact ⟨_, rfl, HD.out.1, HD.out.2⟩

end Go.Proofs.YtnehofekgnbelaaGreatDoor

/-
  net's IP.Mask at an address, in either form.
-/
namespace Go.Proofs.YtnehofekgnbelaaGreatDoor
open Go.RowKit
set_option linter.unusedVariables false
set_option maxRecDepth 100000
set_option maxHeartbeats 1000000

theorem mask_brief_any (v vm : Value) (a : Ad) (free : Nat) (w : World) (ok : a.ok) (hf : free ≤ a.room) (hv : BriefAt w v a) (hm : IPAt w vm (a.mask free)) :
    Calls Tryz.prog 82 #[v, vm] w (IPPost w (a.net free).brief) := by
  obtain ⟨b, o, cap, rfl, lb, h1, h2, hc⟩ := BriefAt.out hv
  obtain ⟨m, mo, mcap, rfl, lm, g1, g2, gc⟩ := IPAt.out hm
  rw [Ad.mask_length] at g1 gc ⊢
  obtain ⟨six, n⟩ := a
  cases six with
  | true => exact mask_brief16 b o cap m mo mcap ⟨true, n⟩ free w ok hf rfl ⟨hc, gc, lb, lm⟩ h1 h2 g1 g2
  | false => exact mask_brief4 b o cap m mo mcap ⟨false, n⟩ free w ok hf rfl ⟨hc, gc, lb, lm⟩ h1 h2 g1 g2

theorem mask_long_any (v vm : Value) (a : Ad) (free : Nat) (w : World) (ok : a.ok) (hf : free ≤ a.room) (hv : LongAt w v a) (hm : IPAt w vm (a.mask free)) :
    Calls Tryz.prog 82 #[v, vm] w (IPPost w (a.net free).brief) := by
  obtain ⟨six, n⟩ := a
  cases six with
  | true => exact mask_brief_any v vm ⟨true, n⟩ free w ok hf hv hm
  | false =>
    have hv' : IPAt w v (pre4 ++ b4 n) := hv
    obtain ⟨b, o, cap, rfl, lb, h1, h2, hc⟩ := IPAt.out hv'
    obtain ⟨m, mo, mcap, rfl, lm, g1, g2, gc⟩ := IPAt.out hm
    rw [Ad.mask_length] at g1 gc ⊢
    have hl : (pre4 ++ b4 n).length = 16 := rfl
    rw [hl] at h1 hc hv' ⊢
    refine mask_long4 b o cap m mo mcap ⟨false, n⟩ free w ok hf rfl ⟨fun i hi => ?_, gc, lb, lm⟩ ?_ h1 h2 g1 g2
    · rw [Nat.add_assoc, hc (12 + i) (by omega)]
      have e : (pre4 ++ b4 n).getD (12 + i) 0 = (Ad.brief ⟨false, n⟩).getD i 0 := by
        show (pre4 ++ b4 n).getD (12 + i) 0 = (b4 n).getD i 0
        rw [List.getD_eq_getElem?_getD, List.getD_eq_getElem?_getD, List.getElem?_append_right (by simp [pre4])]
        congr 2
        simp [pre4]
      rw [e]
    · have hp := hv'.part 0 12 (by omega) (by rw [hl]; omega)
      simp only [Nat.add_zero, Nat.sub_zero] at hp
      exact hp.1

end Go.Proofs.YtnehofekgnbelaaGreatDoor

/-
  net.ParseCIDR of a net's text.
-/
namespace Go.Proofs.YtnehofekgnbelaaGreatDoor
open Go.RowKit
set_option linter.unusedVariables false
set_option maxRecDepth 100000
set_option maxHeartbeats 1000000

/-- What a net's text tells: its address, and how many bits stand behind the mask. -/
structure NetOf (l : List UInt8) (a : Ad) (free : Nat) : Prop where
  more : (cutL 47 l).2.2 = true
  ad : readL (cutL 47 l).1 = some a
  dig : (cutL 47 l).2.1.all isDig = true
  pos : 0 < (cutL 47 l).2.1.length
  val : valL (cutL 47 l).2.1 = ((8 * a.width - free : Nat) : Int)
  room : free ≤ a.room

def CidrPost (w : World) (a : Ad) (free : Nat) (e : Ending) (w' : World) : Prop :=
  ∃ v vi vm b, e = .returned (.tuple #[v, .pointer (some ⟨b, 0, none⟩), .nilIface]) ∧ LongAt w' v a ∧ w'.heap[b]? = some (.cells #[vi, vm] 75 (0, 0)) ∧ IPAt w' vm (a.mask free) ∧ Below w.heap.size w w'

theorem room_le (a : Ad) : a.room ≤ 8 * a.width ∧ 8 * a.width ≤ 128 := by
  unfold Ad.room Ad.width
  split <;> omega

theorem parseCIDR_any (s : ByteArray) (a : Ad) (free : Nat) (w : World) (hs : s.size ≤ 1000) (h : NetOf (bl s) a free) :
    Calls Tryz.prog 118 #[.string s] w (CidrPost w a free) := by
  have ok := readL_ok h.ad
  have hroom := h.room
  have hrw := room_le a
  have hlo := lo_lt a ok
  obtain ⟨n0, e0⟩ := bt_nat a.hi 0
  obtain ⟨n1, e1⟩ := bt_nat a.hi 1
  obtain ⟨n2, e2⟩ := bt_nat a.hi 2
  obtain ⟨n3, e3⟩ := bt_nat a.hi 3
  obtain ⟨n4, e4⟩ := bt_nat a.hi 4
  obtain ⟨n5, e5⟩ := bt_nat a.hi 5
  obtain ⟨n6, e6⟩ := bt_nat a.hi 6
  obtain ⟨n7, e7⟩ := bt_nat a.hi 7
  obtain ⟨n8, e8⟩ := bt_nat a.lo 0
  obtain ⟨n9, e9⟩ := bt_nat a.lo 1
  obtain ⟨n10, e10⟩ := bt_nat a.lo 2
  obtain ⟨n11, e11⟩ := bt_nat a.lo 3
  obtain ⟨n12, e12⟩ := bt_nat a.lo 4
  obtain ⟨n13, e13⟩ := bt_nat a.lo 5
  obtain ⟨n14, e14⟩ := bt_nat a.lo 6
  obtain ⟨n15, e15⟩ := bt_nat a.lo 7
  have hL := as16_long a ok
  have hv : as16L a.hi a.lo = #[(.int .u8 n0), (.int .u8 n1), (.int .u8 n2), (.int .u8 n3), (.int .u8 n4), (.int .u8 n5), (.int .u8 n6), (.int .u8 n7), (.int .u8 n8), (.int .u8 n9), (.int .u8 n10), (.int .u8 n11), (.int .u8 n12), (.int .u8 n13), (.int .u8 n14), (.int .u8 n15)] := by
    unfold as16L
    rw [e0, e1, e2, e3, e4, e5, e6, e7, e8, e9, e10, e11, e12, e13, e14, e15]
  have HAS := Lib.hid (fun w => as16_any a.hi a.lo a.six w hlo.1 hlo.2)
  have HZ := Lib.hid (fun w => zone_any a.hi a.lo a.six w)
  have HBL := Lib.hid (fun w => bitLen_any a.hi a.lo a w)
  have HP := Lib.hid (fun (p : ByteArray) w h h2 => parseAddr_any p a w h h2)
  obtain ⟨k, hk⟩ : ∃ k, k = 8 * a.width - free := ⟨_, rfl⟩
  obtain ⟨W, hW⟩ : ∃ W, W = a.width := ⟨_, rfl⟩
  have HCM := Lib.hid (fun w => cidr_any a.width k w (by unfold Ad.width; split <;> simp) (by omega))
  have HMS := Lib.hid (fun v vm w hv hm => mask_long_any v vm a free w ok hroom hv hm)
  have HMK := Lib.hid (show maskL a.width k = a.mask free by unfold Ad.mask; rw [hk])
  rw [HMK.out] at HCM
  have HKA := Lib.hid hk
  rw [hv] at HAS hL
  rw [← hW] at HBL HCM hk hrw
  have HN := Lib.hid h
  have HL := Lib.hid hL
  have HK := Lib.hid hk
  have k1 : k ≤ 8 * W := by omega
  have k2 : 8 * W ≤ 128 := hrw.2
  clear e0 e1 e2 e3 e4 e5 e6 e7 e8 e9 e10 e11 e12 e13 e14 e15 hv hL h ok hlo hroom hrw hW hk
  generalize a.hi = hi at HAS HZ HBL HP
  generalize a.lo = lo at HAS HZ HBL HP
  unfold naddr at HAS HZ HBL HP
  go_enter Tryz.func118, Tryz.ntmps118
  go_wp2_with fail
  refine (netCut_any s _ hs).mono ?_
  rintro e w1 ⟨p, q, rfl, hp, hq, nd, rfl⟩
  have hsz := cutL_size 47 (bl s)
  rw [bl_length] at hsz
  have HPS := Lib.hid (show p.size ≤ 1000 by rw [← bl_length, hp]; omega)
  have HQS := Lib.hid (show q.size ≤ 1000 by rw [← bl_length, hq]; omega)
  have HQ0 := Lib.hid (show 0 < q.size by rw [← bl_length, hq]; exact HN.out.pos)
  have HPA := Lib.hid (show readL (bl p) = some a by rw [hp]; exact HN.out.ad)
  have HQD := Lib.hid (show (bl q).all isDig = true by rw [hq]; exact HN.out.dig)
  have HQV := Lib.hid (show valL (bl q) = (k : Int) by rw [hq, HN.out.val, ← HKA.out])
  rw [HN.out.more]
  have HB1 := Lib.hid (below_drewN (Below.refl w.heap.size w) nd)
  clear hp hq hsz
  go_wp2_with fail
  refine (HP.out p _ HPA.out HPS.out).mono ?_
  rintro e w2 ⟨rfl, hb2⟩
  have HB2 := Lib.hid (below_tr HB1.out hb2)
  clear hb2
  go_wp2_with fail
  refine (HZ.out _).mono ?_
  rintro e w3 ⟨rfl, hb3⟩
  have hr3 := row_on hb3 (heap_alloc_new w2 _)
  obtain ⟨c0, c1, c2, c3, c4⟩ := row5_facts hr3
  have HR3 := Lib.hid hr3
  have HB3 := Lib.hid (below_tr (HB2.out.alloc HB2.out.size _) hb3)
  clear hr3 hb3
  go_wp2_with fail
  refine (dtoi_any q k _ HQD.out HQ0.out HQS.out HQV.out (by omega)).mono ?_
  rintro e w3' ⟨rfl, rfl⟩
  go_wp2_with fail
  refine (HBL.out _).mono ?_
  rintro e w4 ⟨rfl, hb4⟩
  have hr4 := row_on hb4 HR3.out
  clear c0 c1 c2 c3 c4
  obtain ⟨c0, c1, c2, c3, c4⟩ := row5_facts hr4
  have HR4 := Lib.hid hr4
  have HB4 := Lib.hid (below_tr HB3.out hb4)
  clear hr4 hb4
  have t1 : decide (((8 * W : Nat) : Int) < (k : Int)) = false := decide_eq_false (by omega)
  obtain ⟨M, hM⟩ : ∃ M : Nat, M = 8 * W := ⟨_, rfl⟩
  rw [← hM] at t1 k1 k2 ⊢
  rw [← hM] at HBL HCM
  clear hM
  go_wp2_with fail
  refine (HBL.out _).mono ?_
  rintro e w5 ⟨rfl, hb5⟩
  have hr5 := row_on hb5 HR4.out
  clear c0 c1 c2 c3 c4
  obtain ⟨c0, c1, c2, c3, c4⟩ := row5_facts hr5
  have HR5 := Lib.hid hr5
  have HB5 := Lib.hid (below_tr HB4.out hb5)
  clear hr5 hb5
  go_wp2_with fail
  refine (HCM.out _).mono ?_
  rintro e w6 ⟨vm, rfl, hvm, hb6⟩
  have hr6 := row_on hb6 HR5.out
  clear c0 c1 c2 c3 c4
  obtain ⟨c0, c1, c2, c3, c4⟩ := row5_facts hr6
  have HVM := Lib.hid hvm
  obtain ⟨bm, om, cm, rfl, _⟩ := IPAt.out hvm
  have HB6 := Lib.hid (below_tr HB5.out hb6)
  clear hr6 hb6 hvm
  go_wp2_with fail
  refine (HAS.out _).mono ?_
  rintro e w7 ⟨rfl, hb7⟩
  have HVM7 := Lib.hid (HVM.out.keep hb7)
  have HB7 := Lib.hid (below_tr HB6.out hb7)
  clear hb7 c0 c1 c2 c3 c4
  go_wp2_with fail
  obtain ⟨W8, hW8⟩ : ∃ W8 : World, W8 = w7.alloc (.cells #[.int .u8 n0, .int .u8 n1, .int .u8 n2, .int .u8 n3, .int .u8 n4, .int .u8 n5, .int .u8 n6, .int .u8 n7, .int .u8 n8, .int .u8 n9, .int .u8 n10, .int .u8 n11, .int .u8 n12, .int .u8 n13, .int .u8 n14, .int .u8 n15] 171) := ⟨_, rfl⟩
  have HLO := Lib.hid (show LongAt W8 (.slice (some ⟨w7.heap.size, 0, none⟩) 16 16) a by
    rw [hW8]
    refine ip_of_row (heap_alloc_new w7 _) 0 16 16 a.long a.long_length (by omega) (by omega) (by omega) fun i hi => ?_
    rw [HL.out, Nat.zero_add]
    have h := a.long_length
    simp [u8v, h, hi, List.getD_eq_getElem?_getD])
  have HVM8 := Lib.hid (show IPAt W8 (.slice (some ⟨bm, om, none⟩) (a.mask free).length cm) (a.mask free) by rw [hW8]; exact HVM7.out.keep ((Below.refl _ _).alloc (Nat.le_refl _) _))
  have HB8 := Lib.hid (show Below w.heap.size w W8 by rw [hW8]; exact HB7.out.alloc HB7.out.size _)
  have hd := below_drewN (Below.refl W8.heap.size W8) 1
  have HLO9 := Lib.hid (HLO.out.keep hd)
  have HVM9 := Lib.hid (HVM8.out.keep hd)
  have HB9 := Lib.hid (below_tr HB8.out hd)
  rw [← hW8]
  clear hW8 hd
  go_region_held3 (fun _ => True) (exact trivial) (first | (go_at_call 82; refine (HMS.out _ _ _ HLO9.out HVM9.out).mono ?_; rintro e w9 ⟨v9, rfl, hv9, hb9⟩; obtain ⟨bq, oq, cq, rfl, _⟩ := IPAt.out hv9; have HLO10 := Lib.hid (HLO9.out.keep hb9); have HVM10 := Lib.hid (HVM9.out.keep hb9); have HB10 := Lib.hid (below_tr HB9.out hb9); clear hv9 hb9))
  go_wp2_with fail
  go_ret3
  exact ⟨_, _, _, _, rfl, HLO10.out.keep ((Below.refl _ _).alloc (Nat.le_refl _) _), heap_alloc_new _ _, HVM10.out.keep ((Below.refl _ _).alloc (Nat.le_refl _) _), HB10.out.alloc HB10.out.size _⟩

end Go.Proofs.YtnehofekgnbelaaGreatDoor

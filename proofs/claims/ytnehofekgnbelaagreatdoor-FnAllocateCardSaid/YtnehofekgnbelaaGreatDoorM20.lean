/-
  Texts put together: Can2, Last.
-/
import Derived.Test.YtnehofekgnbelaaGreatDoorM19
import Derived.Test.YtnehofekgnbelaaGreatDoorM14
import Derived.Deep.AppendLies

/-
  allocator's (*Range).Contains.
-/
namespace Go.Proofs.YtnehofekgnbelaaGreatDoor
open Go.RowKit
set_option linter.unusedVariables false
set_option maxRecDepth 100000
set_option maxHeartbeats 1000000

/-- A range's five cells. -/
structure RgAt (w : World) (B o : Nat) (v0 v1 vi vm v4 : Value) : Prop where
  c0 : w.cell? ⟨B, o, none⟩ = some v0
  c1 : w.cell? ⟨B, o + 1, none⟩ = some v1
  c2 : w.cell? ⟨B, o + 2, none⟩ = some vi
  c3 : w.cell? ⟨B, o + 3, none⟩ = some vm
  c4 : w.cell? ⟨B, o + 4, none⟩ = some v4
theorem RgAt.lt {w : World} {B o : Nat} {v0 v1 vi vm v4 : Value} (h : RgAt w B o v0 v1 vi vm v4) : B < w.heap.size := World.block_lt_of_cell? w _ h.c0
theorem RgAt.keep {w w' : World} {B o : Nat} {v0 v1 vi vm v4 : Value} (h : RgAt w B o v0 v1 vi vm v4) (hb : Below w.heap.size w w') : RgAt w' B o v0 v1 vi vm v4 :=
  ⟨(hb.cell h.lt).trans h.c0, (hb.cell h.lt).trans h.c1, (hb.cell h.lt).trans h.c2, (hb.cell h.lt).trans h.c3, (hb.cell h.lt).trans h.c4⟩

theorem canonBox_any (v : Value) (b : Ad) (w : World) (h : AdAt w v b) :
    Calls Tryz.prog 79 #[.pointer (some ⟨w.heap.size, 0, none⟩)] (w.alloc (.cells #[v] 67)) (fun e w' => ∃ v', e = .returned .nilIface ∧ BriefAt w' v' b ∧ w'.heap[w.heap.size]? = some (.cells #[v'] 67 (0, 0)) ∧ Below w.heap.size w w') := by
  have ha := heap_alloc_new w (.cells #[v] 67)
  have hc := cell_of_row (w.alloc (.cells #[v] 67)) w.heap.size 0 _ _ _ ha
  refine (canonIP_any w.heap.size 0 v b _ hc (frozen_of_row _ _ 0 _ _ ha) (h.keep ((Below.refl _ _).alloc (Nat.le_refl _) _))).mono ?_
  rintro e w' ⟨v', rfl, hv', rfl⟩
  refine ⟨v', rfl, IPAt.set hv' fun x => ?_, ?_, ((Below.refl w.heap.size w).alloc (Nat.le_refl _) _).setCell (Nat.le_refl _) _⟩
  · rw [hc]
    obtain ⟨b1, o1, n1, k1, rfl⟩ := h.slice
    simp [u8v]
  · rw [heap_setCell_same _ _ 0 _ _ _ ha]; rfl

/-- Does the range have the address? -/
def startOK (o : Option Ad) (b : Ad) : Bool := match o with | none => true | some s => decide (0 ≤ b.cmp s)
def endOK (o : Option Ad) (b : Ad) : Bool := match o with | none => true | some s => decide (b.cmp s ≤ 0)
def cont (a : Ad) (free : Nat) (o1 o2 : Option Ad) (b : Ad) : Bool := decide (a.six = b.six) && decide (a.net free = b.net free) && startOK o1 b && endOK o2 b

/-- All that Contains looks at. -/
structure ContIn (w : World) (B o : Nat) (v0 v1 vi vm v4 v : Value) (a : Ad) (free : Nat) (o1 o2 : Option Ad) (b : Ad) : Prop where
  at_ : RgAt w B o v0 v1 vi vm v4
  start : OptAt w v0 o1
  end_ : OptAt w v1 o2
  net : BriefAt w vi a
  mask : IPAt w vm (a.mask free)
  ad : AdAt w v b
  oa : a.ok
  ob : b.ok
  o1k : ∀ s, o1 = some s → s.ok
  o2k : ∀ s, o2 = some s → s.ok
  room : free ≤ a.room

/-- The world within: the address's box, the range. -/
structure CW (w : World) (B o : Nat) (v0 v1 vi vm v4 vb : Value) (o1 o2 : Option Ad) (b : Ad) (w' : World) : Prop where
  at_ : RgAt w' B o v0 v1 vi vm v4
  box : w'.heap[w.heap.size]? = some (.cells #[vb] 67 (0, 0))
  ad : AdAt w' vb b
  s : OptAt w' v0 o1
  e : OptAt w' v1 o2
  below : Below w.heap.size w w'
theorem CW.on {w w1 w2 : World} {B o : Nat} {v0 v1 vi vm v4 vb : Value} {o1 o2 : Option Ad} {b : Ad} (h : CW w B o v0 v1 vi vm v4 vb o1 o2 b w1) (hb : Below w1.heap.size w1 w2) : CW w B o v0 v1 vi vm v4 vb o1 o2 b w2 :=
  ⟨h.at_.keep hb, row_on hb h.box, h.ad.keep hb, h.s.keep hb, h.e.keep hb, below_tr h.below hb⟩

theorem contains_kind (B o : Nat) (v0 v1 vi vm v4 v : Value) (a : Ad) (free : Nat) (o1 o2 : Option Ad) (b : Ad) (w : World) (h : ContIn w B o v0 v1 vi vm v4 v a free o1 o2 b) (h6 : a.six ≠ b.six) :
    Calls Tryz.prog 84 #[.pointer (some ⟨B, o, none⟩), v] w (BelowPost w (.bool false)) := by
  have hwn := width_ne h6
  have HB := Lib.hid (canonBox_any v b w h.ad)
  have H := Lib.hid h
  obtain ⟨bs, ns, ks, rfl⟩ := h.start.slice
  obtain ⟨be, ne, ke, rfl⟩ := h.end_.slice
  obtain ⟨bi, oi, ki, rfl, _⟩ := BriefAt.out h.net
  obtain ⟨bm, om, km, rfl, _⟩ := IPAt.out h.mask
  obtain ⟨bv, ov, nv, kv, rfl⟩ := h.ad.slice
  have hlt := h.at_.lt
  go_enter Tryz.func84, Tryz.ntmps84
  go_wp2_with fail
  refine HB.out.mono ?_
  rintro e w1 ⟨v', rfl, hv', hbox, hb1⟩
  have HAT := Lib.hid (H.out.at_.keep hb1)
  obtain ⟨c0, c1, c2, c3, c4⟩ := H.out.at_.keep hb1
  obtain ⟨bw, ow, kw, rfl, _⟩ := BriefAt.out hv'
  have d0 : w1.cell? ⟨w.heap.size, 0, none⟩ = some _ := cell_of_row w1 _ 0 _ _ _ hbox
  have hsz : w.heap.size < w1.heap.size := (Array.getElem?_eq_some_iff.1 hbox).1
  have hne : B < w1.heap.size := by omega
  have HV := Lib.hid hv'
  have HBX := Lib.hid hbox
  have HB1 := Lib.hid hb1
  clear h hv' hbox hb1 HB
  have t1 : ((b.width : Int) != (a.width : Int)) = true := by rw [bne_iff_ne]; omega
  generalize b.width = x at t1 d0 HV HBX ⊢
  generalize a.width = y at t1 c2 hwn H HAT ⊢
  clear HAT H hwn
  go_wp2_with fail
  go_quiet (fail)
  go_wp2_with fail
  go_ret
  exact ⟨rfl, below_drewN (HB1.out.alloc HB1.out.size _) _⟩

theorem contains_net (B o : Nat) (v0 v1 vi vm v4 v : Value) (a : Ad) (free : Nat) (o1 o2 : Option Ad) (b : Ad) (w : World) (h : ContIn w B o v0 v1 vi vm v4 v a free o1 o2 b) (h6 : a.six = b.six) (hn : ¬ a.net free = b.net free) :
    Calls Tryz.prog 84 #[.pointer (some ⟨B, o, none⟩), v] w (BelowPost w (.bool false)) := by
  have HB := Lib.hid (canonBox_any v b w h.ad)
  have H := Lib.hid h
  obtain ⟨bs, ns, ks, rfl⟩ := h.start.slice
  obtain ⟨be, ne, ke, rfl⟩ := h.end_.slice
  obtain ⟨bi, oi, ki, rfl, _⟩ := BriefAt.out h.net
  obtain ⟨bm, om, km, rfl, _⟩ := IPAt.out h.mask
  obtain ⟨bv, ov, nv, kv, rfl⟩ := h.ad.slice
  have hlt := h.at_.lt
  go_enter Tryz.func84, Tryz.ntmps84
  go_wp2_with fail
  refine HB.out.mono ?_
  rintro e w1 ⟨v', rfl, hv', hbox, hb1⟩
  have HAT := Lib.hid (H.out.at_.keep hb1)
  obtain ⟨c0, c1, c2, c3, c4⟩ := H.out.at_.keep hb1
  obtain ⟨bw, ow, kw, rfl, _⟩ := BriefAt.out hv'
  have d0 : w1.cell? ⟨w.heap.size, 0, none⟩ = some _ := cell_of_row w1 _ 0 _ _ _ hbox
  have hsz : w.heap.size < w1.heap.size := (Array.getElem?_eq_some_iff.1 hbox).1
  have hne : B < w1.heap.size := by omega
  have HV := Lib.hid hv'
  have HBX := Lib.hid hbox
  have HB1 := Lib.hid hb1
  clear h hv' hbox hb1 HB
  have t1 : ((b.width : Int) != (a.width : Int)) = false := by rw [width_eq h6]; simp
  have HNC := Lib.hid (fun B w h0 h1 hi hm hv => netContains_any B (.slice (some ⟨bi, oi, none⟩) a.width ki) (.slice (some ⟨bm, om, none⟩) (a.mask free).length km) (.slice (some ⟨bw, ow, none⟩) b.width kw) a b free w h0 h1 hi hm hv H.out.oa H.out.ob H.out.room h6)
  generalize hx : b.width = x at t1 d0 HV HBX HNC ⊢
  generalize hy : a.width = y at t1 c2 H HAT HNC ⊢
  generalize hz : (a.mask free).length = z at c3 H HAT HNC ⊢
  clear hx hy hz
  go_wp2_with fail
  go_quiet (fail)
  go_wp2_with fail
  have hal : Below w1.heap.size w1 (w1.alloc (.cells #[.slice (some ⟨bi, oi, none⟩) y ki, .slice (some ⟨bm, om, none⟩) z km] 75)) := (Below.refl _ _).alloc (Nat.le_refl _) _
  have hdr := below_drewN (Below.refl (w1.alloc (.cells #[.slice (some ⟨bi, oi, none⟩) y ki, .slice (some ⟨bm, om, none⟩) z km] 75)).heap.size (w1.alloc (.cells #[.slice (some ⟨bi, oi, none⟩) y ki, .slice (some ⟨bm, om, none⟩) z km] 75))) nq
  have hb2 := below_tr hal hdr
  have hrow2 := row_on hdr (heap_alloc_new w1 (.cells #[.slice (some ⟨bi, oi, none⟩) y ki, .slice (some ⟨bm, om, none⟩) z km] 75))
  have hcall := HNC.out w1.heap.size _ (cell_of_row _ _ 0 _ _ _ hrow2) (cell_of_row _ _ 1 _ _ _ hrow2) (IPAt.keep H.out.net (below_tr HB1.out hb2)) (IPAt.keep H.out.mask (below_tr HB1.out hb2)) (IPAt.keep HV.out hb2)
  have HCW := Lib.hid (CW.on (⟨HAT.out, HBX.out, .inr HV.out, H.out.start.keep HB1.out, H.out.end_.keep HB1.out, HB1.out⟩ : CW w B o _ _ _ _ v4 _ o1 o2 b w1) hb2)
  rw [decide_eq_false hn] at hcall
  clear hal hdr hb2 hrow2 HNC
  refine hcall.mono ?_
  rintro e w3 ⟨rfl, hb3⟩
  have HC3 := Lib.hid (HCW.out.on hb3)
  clear hb3 hcall c0 c1 c2 c3 c4 d0
  go_wp2_with fail
  go_ret
  exact ⟨rfl, HC3.out.below⟩

theorem contains_in (B o : Nat) (v0 v1 vi vm v4 v : Value) (a : Ad) (free : Nat) (o1 o2 : Option Ad) (b : Ad) (w : World) (h : ContIn w B o v0 v1 vi vm v4 v a free o1 o2 b) (h6 : a.six = b.six) (hn : a.net free = b.net free) :
    Calls Tryz.prog 84 #[.pointer (some ⟨B, o, none⟩), v] w (BelowPost w (.bool (startOK o1 b && endOK o2 b))) := by
  have hnil := fun w a n c => run_neq_slice_nil_any (P := Tryz.prog) w 67 5 a n c 0 0 Tryz.underlying67
  have HB := Lib.hid (canonBox_any v b w h.ad)
  have H := Lib.hid h
  obtain ⟨bs, ns, ks, rfl⟩ := h.start.slice
  obtain ⟨be, ne, ke, rfl⟩ := h.end_.slice
  obtain ⟨bi, oi, ki, rfl, _⟩ := BriefAt.out h.net
  obtain ⟨bm, om, km, rfl, _⟩ := IPAt.out h.mask
  obtain ⟨bv, ov, nv, kv, rfl⟩ := h.ad.slice
  have hlt := h.at_.lt
  go_enter Tryz.func84, Tryz.ntmps84
  go_wp2_with fail
  refine HB.out.mono ?_
  rintro e w1 ⟨v', rfl, hv', hbox, hb1⟩
  have HAT := Lib.hid (H.out.at_.keep hb1)
  obtain ⟨c0, c1, c2, c3, c4⟩ := H.out.at_.keep hb1
  obtain ⟨bw, ow, kw, rfl, _⟩ := BriefAt.out hv'
  have d0 : w1.cell? ⟨w.heap.size, 0, none⟩ = some _ := cell_of_row w1 _ 0 _ _ _ hbox
  have hsz : w.heap.size < w1.heap.size := (Array.getElem?_eq_some_iff.1 hbox).1
  have hne : B < w1.heap.size := by omega
  have HV := Lib.hid hv'
  have HBX := Lib.hid hbox
  have HB1 := Lib.hid hb1
  clear h hv' hbox hb1 HB
  have t1 : ((b.width : Int) != (a.width : Int)) = false := by rw [width_eq h6]; simp
  have HNC := Lib.hid (fun B w h0 h1 hi hm hv => netContains_any B (.slice (some ⟨bi, oi, none⟩) a.width ki) (.slice (some ⟨bm, om, none⟩) (a.mask free).length km) (.slice (some ⟨bw, ow, none⟩) b.width kw) a b free w h0 h1 hi hm hv H.out.oa H.out.ob H.out.room h6)
  generalize hx : b.width = x at t1 d0 HV HBX HNC ⊢
  generalize hy : a.width = y at t1 c2 H HAT HNC ⊢
  generalize hz : (a.mask free).length = z at c3 H HAT HNC ⊢
  clear hx hy hz
  go_wp2_with fail
  go_quiet (fail)
  go_wp2_with fail
  have hal : Below w1.heap.size w1 (w1.alloc (.cells #[.slice (some ⟨bi, oi, none⟩) y ki, .slice (some ⟨bm, om, none⟩) z km] 75)) := (Below.refl _ _).alloc (Nat.le_refl _) _
  have hdr := below_drewN (Below.refl (w1.alloc (.cells #[.slice (some ⟨bi, oi, none⟩) y ki, .slice (some ⟨bm, om, none⟩) z km] 75)).heap.size (w1.alloc (.cells #[.slice (some ⟨bi, oi, none⟩) y ki, .slice (some ⟨bm, om, none⟩) z km] 75))) nq
  have hb2 := below_tr hal hdr
  have hrow2 := row_on hdr (heap_alloc_new w1 (.cells #[.slice (some ⟨bi, oi, none⟩) y ki, .slice (some ⟨bm, om, none⟩) z km] 75))
  have hcall := HNC.out w1.heap.size _ (cell_of_row _ _ 0 _ _ _ hrow2) (cell_of_row _ _ 1 _ _ _ hrow2) (IPAt.keep H.out.net (below_tr HB1.out hb2)) (IPAt.keep H.out.mask (below_tr HB1.out hb2)) (IPAt.keep HV.out hb2)
  have HCW := Lib.hid (CW.on (⟨HAT.out, HBX.out, .inr HV.out, H.out.start.keep HB1.out, H.out.end_.keep HB1.out, HB1.out⟩ : CW w B o _ _ _ _ v4 _ o1 o2 b w1) hb2)
  rw [decide_eq_true hn] at hcall
  clear hal hdr hb2 hrow2 HNC
  refine hcall.mono ?_
  rintro e w3 ⟨rfl, hb3⟩
  have HC3 := Lib.hid (HCW.out.on hb3)
  clear hb3 hcall c0 c1 c2 c3 c4 d0
  obtain ⟨c0, c1, _, _, _⟩ := HC3.out.at_
  have d0 : w3.cell? ⟨w.heap.size, 0, none⟩ = some _ := cell_of_row w3 _ 0 _ _ _ HC3.out.box
  cases o1 with
  | none =>
    have hv0 := HC3.out.s
    obtain ⟨rfl, rfl, rfl⟩ : bs = none ∧ ns = 0 ∧ ks = 0 := by simpa [OptAt] using hv0
    clear hv0
    cases o2 with
    | none =>
      have hv1 := HC3.out.e
      obtain ⟨rfl, rfl, rfl⟩ : be = none ∧ ne = 0 ∧ ke = 0 := by simpa [OptAt] using hv1
      clear hv1
      go_wp2_with fail
      go_ret
      exact ⟨rfl, HC3.out.below⟩
    | some e2 =>
      obtain ⟨b5, o5, n5, k5, he5⟩ := AdAt.slice (show AdAt _ _ e2 from HC3.out.e)
      obtain ⟨rfl, rfl, rfl⟩ : be = some ⟨b5, o5, none⟩ ∧ ne = n5 ∧ ke = k5 := by simpa using he5
      clear he5
      by_cases hce : b.cmp e2 ≤ 0
      · have t5 : decide ((0 : Int) < b.cmp e2) = false := decide_eq_false (by omega)
        have HR := Lib.hid (show endOK (some e2) b = true by unfold endOK; exact decide_eq_true hce)
        clear hce
        have HK5 := Lib.hid (fun w hu hv => Cmp_any (.slice (some ⟨bw, ow, none⟩) x kw) (.slice (some ⟨b5, o5, none⟩) ne ke) b e2 w hu hv H.out.ob (H.out.o2k e2 rfl))
        generalize hg5 : b.cmp e2 = g5 at HK5 t5
        clear hg5
        go_wp2_with fail
        go_region_held3 (fun w' => w'.cell? ⟨w.heap.size, 0, none⟩ = some (.slice (some ⟨bw, ow, none⟩) x kw) ∧ w'.cell? ⟨B, o + 1, none⟩ = some (.slice (some ⟨b5, o5, none⟩) ne ke)) (go_keep) (first | (go_at_call 126; refine (HK5.out _ (HC3.out.ad.keep (below_drewN (Below.refl _ _) 1)) ((HC3.out.e).keep (below_drewN (Below.refl _ _) 1))).mono ?_; rintro e w5 ⟨rfl, hb⟩; have HF := Lib.hid (HC3.out.on (below_tr (below_drewN (Below.refl _ _) 1) hb)); clear c0 c1 d0; obtain ⟨c0, c1, _, _, _⟩ := HF.out.at_; have d0 : w5.cell? ⟨w.heap.size, 0, none⟩ = some _ := cell_of_row w5 _ 0 _ _ _ HF.out.box; clear hb))
        go_wp2_with fail
        go_ret
        exact ⟨ret_bool (by rw [HR.out]; rfl), HF.out.below⟩
      · have t5 : decide ((0 : Int) < b.cmp e2) = true := decide_eq_true (by omega)
        have HR := Lib.hid (show endOK (some e2) b = false by unfold endOK; exact decide_eq_false hce)
        clear hce
        have HK5 := Lib.hid (fun w hu hv => Cmp_any (.slice (some ⟨bw, ow, none⟩) x kw) (.slice (some ⟨b5, o5, none⟩) ne ke) b e2 w hu hv H.out.ob (H.out.o2k e2 rfl))
        generalize hg5 : b.cmp e2 = g5 at HK5 t5
        clear hg5
        go_wp2_with fail
        go_region_held3 (fun w' => w'.cell? ⟨w.heap.size, 0, none⟩ = some (.slice (some ⟨bw, ow, none⟩) x kw) ∧ w'.cell? ⟨B, o + 1, none⟩ = some (.slice (some ⟨b5, o5, none⟩) ne ke)) (go_keep) (first | (go_at_call 126; refine (HK5.out _ (HC3.out.ad.keep (below_drewN (Below.refl _ _) 1)) ((HC3.out.e).keep (below_drewN (Below.refl _ _) 1))).mono ?_; rintro e w5 ⟨rfl, hb⟩; have HF := Lib.hid (HC3.out.on (below_tr (below_drewN (Below.refl _ _) 1) hb)); clear c0 c1 d0; obtain ⟨c0, c1, _, _, _⟩ := HF.out.at_; have d0 : w5.cell? ⟨w.heap.size, 0, none⟩ = some _ := cell_of_row w5 _ 0 _ _ _ HF.out.box; clear hb))
        go_wp2_with fail
        go_ret
        exact ⟨ret_bool (by rw [HR.out]; rfl), HF.out.below⟩
  | some s1 =>
    obtain ⟨b6, o6, n6, k6, he6⟩ := AdAt.slice (show AdAt _ _ s1 from HC3.out.s)
    obtain ⟨rfl, rfl, rfl⟩ : bs = some ⟨b6, o6, none⟩ ∧ ns = n6 ∧ ks = k6 := by simpa using he6
    clear he6
    by_cases hcs : 0 ≤ b.cmp s1
    · have t6 : decide (b.cmp s1 < (0 : Int)) = false := decide_eq_false (by omega)
      have HRS := Lib.hid (show startOK (some s1) b = true by unfold startOK; exact decide_eq_true hcs)
      clear hcs
      have HK6 := Lib.hid (fun w hu hv => Cmp_any (.slice (some ⟨bw, ow, none⟩) x kw) (.slice (some ⟨b6, o6, none⟩) ns ks) b s1 w hu hv H.out.ob (H.out.o1k s1 rfl))
      generalize hg6 : b.cmp s1 = g6 at HK6 t6
      clear hg6
      go_wp2_with fail
      go_region_held3 (fun w' => w'.cell? ⟨w.heap.size, 0, none⟩ = some (.slice (some ⟨bw, ow, none⟩) x kw) ∧ w'.cell? ⟨B, o, none⟩ = some (.slice (some ⟨b6, o6, none⟩) ns ks)) (go_keep) (first | (go_at_call 126; refine (HK6.out _ (HC3.out.ad.keep (below_drewN (Below.refl _ _) 1)) ((HC3.out.s).keep (below_drewN (Below.refl _ _) 1))).mono ?_; rintro e w6 ⟨rfl, hb⟩; have HS := Lib.hid (HC3.out.on (below_tr (below_drewN (Below.refl _ _) 1) hb)); clear c0 c1 d0; obtain ⟨c0, c1, _, _, _⟩ := HS.out.at_; have d0 : w6.cell? ⟨w.heap.size, 0, none⟩ = some _ := cell_of_row w6 _ 0 _ _ _ HS.out.box; clear hb))
      cases o2 with
      | none =>
        have hv1 := HS.out.e
        obtain ⟨rfl, rfl, rfl⟩ : be = none ∧ ne = 0 ∧ ke = 0 := by simpa [OptAt] using hv1
        clear hv1
        go_wp2_with fail
        go_ret
        exact ⟨ret_bool (by rw [HRS.out]; rfl), HS.out.below⟩
      | some e2 =>
        obtain ⟨b5, o5, n5, k5, he5⟩ := AdAt.slice (show AdAt _ _ e2 from HS.out.e)
        obtain ⟨rfl, rfl, rfl⟩ : be = some ⟨b5, o5, none⟩ ∧ ne = n5 ∧ ke = k5 := by simpa using he5
        clear he5
        by_cases hce : b.cmp e2 ≤ 0
        · have t5 : decide ((0 : Int) < b.cmp e2) = false := decide_eq_false (by omega)
          have HR := Lib.hid (show endOK (some e2) b = true by unfold endOK; exact decide_eq_true hce)
          clear hce
          have HK5 := Lib.hid (fun w hu hv => Cmp_any (.slice (some ⟨bw, ow, none⟩) x kw) (.slice (some ⟨b5, o5, none⟩) ne ke) b e2 w hu hv H.out.ob (H.out.o2k e2 rfl))
          generalize hg5 : b.cmp e2 = g5 at HK5 t5
          clear hg5
          go_wp2_with fail
          go_region_held3 (fun w' => w'.cell? ⟨w.heap.size, 0, none⟩ = some (.slice (some ⟨bw, ow, none⟩) x kw) ∧ w'.cell? ⟨B, o + 1, none⟩ = some (.slice (some ⟨b5, o5, none⟩) ne ke)) (go_keep) (first | (go_at_call 126; refine (HK5.out _ (HS.out.ad.keep (below_drewN (Below.refl _ _) 1)) ((HS.out.e).keep (below_drewN (Below.refl _ _) 1))).mono ?_; rintro e w5 ⟨rfl, hb⟩; have HF := Lib.hid (HS.out.on (below_tr (below_drewN (Below.refl _ _) 1) hb)); clear c0 c1 d0; obtain ⟨c0, c1, _, _, _⟩ := HF.out.at_; have d0 : w5.cell? ⟨w.heap.size, 0, none⟩ = some _ := cell_of_row w5 _ 0 _ _ _ HF.out.box; clear hb))
          go_wp2_with fail
          go_ret
          exact ⟨ret_bool (by rw [HRS.out, HR.out]; rfl), HF.out.below⟩
        · have t5 : decide ((0 : Int) < b.cmp e2) = true := decide_eq_true (by omega)
          have HR := Lib.hid (show endOK (some e2) b = false by unfold endOK; exact decide_eq_false hce)
          clear hce
          have HK5 := Lib.hid (fun w hu hv => Cmp_any (.slice (some ⟨bw, ow, none⟩) x kw) (.slice (some ⟨b5, o5, none⟩) ne ke) b e2 w hu hv H.out.ob (H.out.o2k e2 rfl))
          generalize hg5 : b.cmp e2 = g5 at HK5 t5
          clear hg5
          go_wp2_with fail
          go_region_held3 (fun w' => w'.cell? ⟨w.heap.size, 0, none⟩ = some (.slice (some ⟨bw, ow, none⟩) x kw) ∧ w'.cell? ⟨B, o + 1, none⟩ = some (.slice (some ⟨b5, o5, none⟩) ne ke)) (go_keep) (first | (go_at_call 126; refine (HK5.out _ (HS.out.ad.keep (below_drewN (Below.refl _ _) 1)) ((HS.out.e).keep (below_drewN (Below.refl _ _) 1))).mono ?_; rintro e w5 ⟨rfl, hb⟩; have HF := Lib.hid (HS.out.on (below_tr (below_drewN (Below.refl _ _) 1) hb)); clear c0 c1 d0; obtain ⟨c0, c1, _, _, _⟩ := HF.out.at_; have d0 : w5.cell? ⟨w.heap.size, 0, none⟩ = some _ := cell_of_row w5 _ 0 _ _ _ HF.out.box; clear hb))
          go_wp2_with fail
          go_ret
          exact ⟨ret_bool (by rw [HRS.out, HR.out]; rfl), HF.out.below⟩
    · have t6 : decide (b.cmp s1 < (0 : Int)) = true := decide_eq_true (by omega)
      have HRS := Lib.hid (show startOK (some s1) b = false by unfold startOK; exact decide_eq_false hcs)
      clear hcs
      have HK6 := Lib.hid (fun w hu hv => Cmp_any (.slice (some ⟨bw, ow, none⟩) x kw) (.slice (some ⟨b6, o6, none⟩) ns ks) b s1 w hu hv H.out.ob (H.out.o1k s1 rfl))
      generalize hg6 : b.cmp s1 = g6 at HK6 t6
      clear hg6
      go_wp2_with fail
      go_region_held3 (fun w' => w'.cell? ⟨w.heap.size, 0, none⟩ = some (.slice (some ⟨bw, ow, none⟩) x kw) ∧ w'.cell? ⟨B, o, none⟩ = some (.slice (some ⟨b6, o6, none⟩) ns ks)) (go_keep) (first | (go_at_call 126; refine (HK6.out _ (HC3.out.ad.keep (below_drewN (Below.refl _ _) 1)) ((HC3.out.s).keep (below_drewN (Below.refl _ _) 1))).mono ?_; rintro e w6 ⟨rfl, hb⟩; have HS := Lib.hid (HC3.out.on (below_tr (below_drewN (Below.refl _ _) 1) hb)); clear c0 c1 d0; obtain ⟨c0, c1, _, _, _⟩ := HS.out.at_; have d0 : w6.cell? ⟨w.heap.size, 0, none⟩ = some _ := cell_of_row w6 _ 0 _ _ _ HS.out.box; clear hb))
      go_wp2_with fail
      go_ret
      exact ⟨ret_bool (by rw [HRS.out]; rfl), HS.out.below⟩

theorem contains_any (B o : Nat) (v0 v1 vi vm v4 v : Value) (a : Ad) (free : Nat) (o1 o2 : Option Ad) (b : Ad) (w : World) (h : ContIn w B o v0 v1 vi vm v4 v a free o1 o2 b) :
    Calls Tryz.prog 84 #[.pointer (some ⟨B, o, none⟩), v] w (BelowPost w (.bool (cont a free o1 o2 b))) := by
  unfold cont
  by_cases h6 : a.six = b.six
  · by_cases hn : a.net free = b.net free
    · rw [decide_eq_true h6, decide_eq_true hn]
      exact contains_in B o v0 v1 vi vm v4 v a free o1 o2 b w h h6 hn
    · rw [decide_eq_true h6, decide_eq_false hn]
      exact contains_net B o v0 v1 vi vm v4 v a free o1 o2 b w h h6 hn
  · rw [decide_eq_false h6]
    exact contains_kind B o v0 v1 vi vm v4 v a free o1 o2 b w h h6

end Go.Proofs.YtnehofekgnbelaaGreatDoor

/-
  allocator.lastIP.
-/
namespace Go.Proofs.YtnehofekgnbelaaGreatDoor
open Go.RowKit
set_option linter.unusedVariables false
set_option maxRecDepth 100000
set_option maxHeartbeats 1000000

/-- The world within: the box of the subnet, the bytes so far. -/
structure LastRel (w : World) (vi vm v : Value) (l : List UInt8) (wr : World) : Prop where
  box : wr.heap[w.heap.size]? = some (.cells #[vi, vm] 70 (0, 0))
  buf : Buf wr (w.heap.size + 1) v l
  below : Below w.heap.size w wr
  size : w.heap.size + 1 ≤ wr.heap.size

theorem LastRel.grow {w wr w2 : World} {vi vm v v2 : Value} {l l2 : List UInt8} {o : Obj} (h : LastRel w vi vm v l wr) (hg : (wr.alloc o).drew.grownBy w2 v.ownBlock) (hB : Buf w2 (w.heap.size + 1) v2 l2) : LastRel w vi vm v2 l2 w2 := by
  have hlt := h.buf.lt
  have hb : Below wr.heap.size wr (wr.alloc o).drew := below_drewN ((Below.refl _ _).alloc (Nat.le_refl _) _) 1
  have hbw : Below w.heap.size w (wr.alloc o).drew := below_tr h.below hb
  refine ⟨?_, hB, hbw.grown hg (by have := hbw.size; exact this) (fun k hk => by have := (hlt k hk).1; omega), Nat.le_trans (Nat.le_trans h.size hb.size) hg.size⟩
  have h1 := row_on hb h.box
  rw [hg.block _ (Array.getElem?_eq_some_iff.1 h1).1 (fun e => by have := (hlt _ e.symm).1; omega)]
  exact h1

theorem not_u8 (x : UInt8) : bits .xor .u8 (if IntKind.u8.signed = true then -1 else IntKind.u8.max) (x.toNat : Int) = ((255 - x.toNat : Nat) : Int) := by
  have key : ∀ x : Fin 256, bits .xor .u8 (if IntKind.u8.signed = true then -1 else IntKind.u8.max) (x.val : Int) = ((255 - x.val : Nat) : Int) := by decide +kernel
  exact key ⟨x.toNat, x.toNat_lt⟩

theorem take_owns {w : World} {base : Nat} {v : Value} {l : List UInt8} (k : Nat) (hk : k ≤ l.length) (h : Buf w base v (l.take k)) : w.ownsRow base 5 1 v k (ipv (l.take k)) := by
  unfold Buf at h
  rw [List.length_take, Nat.min_eq_left hk] at h
  exact h
theorem last_buf {w2 : World} {base : Nat} {v : Value} {n : Nat} {l l' : List UInt8} {x : Int} {y : UInt8} (h : w2.ownsRow base 5 1 v (n + 1) (ipv l ++ [.int .u8 x])) (hx : x = y.toNat) (hl : l' = l ++ [y]) (hn : l.length = n) : Buf w2 base v l' := by
  subst hx hl hn
  unfold Buf
  rw [List.length_append, show ipv (l ++ [y]) = ipv l ++ [.int .u8 y.toNat] by simp [ipv, u8v]]
  exact h

/-- The last address that is given: of four bytes not the last one of all. -/
def Ad.endOf (a : Ad) (free : Nat) : Ad := if a.six then a.last free else (a.last free).down
theorem end_six {a : Ad} {free : Nat} (h : a.six = true) : (a.endOf free).brief = (a.last free).brief := by unfold Ad.endOf; rw [if_pos h]
theorem last_odd {a : Ad} {free : Nat} (h1 : 1 ≤ free) : (a.last free).n % 2 = 1 := by
  obtain ⟨f, rfl⟩ : ∃ f, free = f + 1 := ⟨free - 1, by omega⟩
  show (a.n / 2 ^ (f + 1) * 2 ^ (f + 1) + (2 ^ (f + 1) - 1)) % 2 = 1
  rw [Nat.pow_succ, ← Nat.mul_assoc]
  have : 0 < 2 ^ f := Nat.pow_pos (by decide)
  omega
theorem end_four {a : Ad} {free : Nat} (h : a.six = false) (oa : a.ok) (hf : free ≤ a.room) (h1 : 1 ≤ free) : ∃ y : UInt8, (a.last free).brief.set 3 y = (a.endOf free).brief ∧ y.toNat + 1 = ((a.last free).brief.getD 3 0).toNat := by
  have hodd := last_odd (a := a) h1
  have hok := last_ok oa hf
  obtain ⟨six, n⟩ := a
  obtain rfl : six = false := h
  have e : Ad.endOf ⟨false, n⟩ free = (Ad.last ⟨false, n⟩ free).down := rfl
  rw [e]
  have e2 : (Ad.last ⟨false, n⟩ free).brief = b4 (Ad.last ⟨false, n⟩ free).n := rfl
  have e3 : (Ad.last ⟨false, n⟩ free).down.brief = b4 ((Ad.last ⟨false, n⟩ free).n - 1) := rfl
  rw [e2, e3]
  generalize (Ad.last ⟨false, n⟩ free).n = L at hodd
  refine ⟨UInt8.ofNat (L - 1), ?_, ?_⟩
  · show [UInt8.ofNat (L / 16777216), UInt8.ofNat (L / 65536), UInt8.ofNat (L / 256), UInt8.ofNat (L - 1)] = b4 (L - 1)
    unfold b4
    rw [show (L - 1) / 16777216 = L / 16777216 by omega, show (L - 1) / 65536 = L / 65536 by omega, show (L - 1) / 256 = L / 256 by omega]
  · show (UInt8.ofNat (L - 1)).toNat + 1 = (UInt8.ofNat L).toNat
    rw [toNat_ofNat, toNat_ofNat]
    omega

theorem lastIP_loop (vi vm : Value) (a : Ad) (free : Nat) (w : World) (hi : BriefAt w vi a) (hm : IPAt w vm (a.mask free)) (oa : a.ok) (hf : free ≤ a.room) (h1f : 1 ≤ free) :
    Calls Tryz.prog 85 #[.agg #[vi, vm]] w (IPPost w (a.endOf free).brief) := by
  have hnil := fun w a n c => run_neq_slice_nil_any (P := Tryz.prog) w 67 5 a n c 0 0 Tryz.underlying67
  have HEND := Lib.hid (fun (h6 : a.six = true) => end_six (a := a) (free := free) h6)
  have HEND4 := Lib.hid (fun (h6 : a.six = false) => end_four (a := a) (free := free) h6 oa hf h1f)
  have HOR := Lib.hid (fun i (h : i < a.width) => or_ad a free i oa hf h)
  have HL := Lib.hid (show (a.last free).brief.length = a.width by rw [Ad.brief_length]; rfl)
  obtain ⟨bi, oi, ki, rfl, li, gi1, gi2, gic⟩ := BriefAt.out hi
  obtain ⟨bm, om, km, rfl, lm, gm1, gm2, gmc⟩ := IPAt.out hm
  rw [Ad.mask_length] at gm1 gmc ⊢
  have HGI := Lib.hid gic
  have HGM := Lib.hid gmc
  have HT := Lib.hid (fun w' (hb : Below w.heap.size w w') => to4_any _ a w' (.inr (IPAt.keep hi hb)))
  have hW16 := (width_cases a).2
  have hW0 := (width_cases a).1
  obtain ⟨i0, hinf, hz0, hz1, hz2⟩ := info_parts infoU8
  have HINF := Lib.hid hinf
  obtain ⟨W, hW⟩ : ∃ W, W = a.width := ⟨_, rfl⟩
  rw [← hW] at HOR HL HGI HGM HT hW16 hW0 gi1 gm1 ⊢
  have HST := Lib.hid (show LastRel w (.slice (some ⟨bi, oi, none⟩) W ki) (.slice (some ⟨bm, om, none⟩) W km) (.slice none 0 0) ((a.last free).brief.take 0) (w.alloc (.cells #[.slice (some ⟨bi, oi, none⟩) W ki, .slice (some ⟨bm, om, none⟩) W km] 70)) from
    ⟨heap_alloc_new w _, World.ownsRow_nil _ _ _ _, (Below.refl w.heap.size w).alloc (Nat.le_refl _) _, by simp⟩)
  clear hi hm oa hf gic gmc hW hinf
  go_enter Tryz.func85, Tryz.ntmps85
  go_wp2_with fail
  go_loopw [3, 4] (fun v i wr => ∃ k : Nat, k ≤ W ∧ i = .int .i64 k ∧ Hid (LastRel w (.slice (some ⟨bi, oi, none⟩) W ki) (.slice (some ⟨bm, om, none⟩) W km) v ((a.last free).brief.take k) wr)) (fun _ i _ => W - (intOf i).toNat)
  case atStart => exact ⟨0, Nat.zero_le _, rfl, HST.out⟩
  case round =>
    obtain ⟨k, hk, rfl, hr⟩ := hrel
    have hbox := hr.out.box
    have d0 : _ = some _ := cell_of_row _ w.heap.size 0 _ _ _ hbox
    have d1 : _ = some _ := cell_of_row _ w.heap.size 1 _ _ _ hbox
    by_cases hlt : k < W
    · have c1 := (hr.out.below.cell (p := ⟨bi, oi + k, none⟩) li).trans (HGI.out k hlt)
      have c2 := (hr.out.below.cell (p := ⟨bm, om + k, none⟩) lm).trans (HGM.out k hlt)
      have hor := HOR.out k hlt
      have g1 := HGI.out k hlt
      have g2 := HGM.out k hlt
      have htk := take_getD (a.last free).brief k (by rw [HL.out]; exact hlt)
      have hbuf := take_owns k (by rw [HL.out]; omega) hr.out.buf
      have hown := hr.out.buf.lt
      have hsz := hr.out.size
      generalize a.brief.getD k 0 = x1 at c1 hor g1
      generalize (a.mask free).getD k 0 = x2 at c2 hor g2
      have G1 := Lib.hid g1
      have G2 := Lib.hid g2
      clear g1 g2
      generalize (a.last free).brief.getD k 0 = y at hor htk
      rw [← not_u8] at hor
      have HOR2 := Lib.hid hor
      clear hor
      have HTK := Lib.hid htk
      have HBUF := Lib.hid hbuf
      have HOWN := Lib.hid hown
      have q1 : (0 : Int) ≤ (k : Int) := by omega
      have q2 : (k : Int) < W := by omega
      clear htk hbuf hown hbox
      go_wp2_with fail
      go_region_held3 (fun w' => w'.cell? ⟨w.heap.size, 0, none⟩ = some (.slice (some ⟨bi, oi, none⟩) W ki) ∧ w'.cell? ⟨w.heap.size, 1, none⟩ = some (.slice (some ⟨bm, om, none⟩) W km) ∧ w'.cell? ⟨bi, oi + k, none⟩ = some (.int .u8 x1.toNat) ∧ w'.cell? ⟨bm, om + k, none⟩ = some (.int .u8 x2.toNat)) (first | go_keep | exact hkeep.out) ((refine step_append_lies _ (by rfl) _ _ _ (by rfl) (w.heap.size + 1) 5 i0 (.int .u8 0) 1 1 Tryz.underlying67 HINF.out hz0 hz1 hz2 (by rfl) (by omega) _ k (ipv ((a.last free).brief.take k)) (by rfl) ((HBUF.out.alloc _).drew) ⟨wr.heap.size, 0, none⟩ 1 1 [.int .u8 (bits .or .u8 (x1.toNat : Int) (bits .xor .u8 (if IntKind.u8.signed = true then -1 else IntKind.u8.max) (x2.toNat : Int)))] (by rfl) (by rfl) (World.news_of_block (cs := #[.int .u8 (bits .or .u8 (x1.toNat : Int) (bits .xor .u8 (if IntKind.u8.signed = true then -1 else IntKind.u8.max) (x2.toNat : Int)))]) (t := 5) (fr := (0, 0)) (heap_alloc_new wr _)) (by simp [Value.oneCell']) (by omega) (by unfold maxLen; omega) (by omega) (by simp; omega) (wr.heap.size + 1) (by simp) ?_; intro g cap w2 hown1 hgrow hat hlt2; have HN := Lib.hid (hr.out.grow hgrow (last_buf hown1 HOR2.out HTK.out (by rw [List.length_take, HL.out]; omega))); have e0 : w2.cell? ⟨w.heap.size, 0, none⟩ = some (.slice (some ⟨bi, oi, none⟩) W ki) := cell_of_row w2 _ 0 _ _ _ HN.out.box; have e1 : w2.cell? ⟨w.heap.size, 1, none⟩ = some (.slice (some ⟨bm, om, none⟩) W km) := cell_of_row w2 _ 1 _ _ _ HN.out.box; have e2 := (HN.out.below.cell (p := ⟨bi, oi + k, none⟩) li).trans G1.out; have e3 := (HN.out.below.cell (p := ⟨bm, om + k, none⟩) lm).trans G2.out; clear hown1 hgrow hat))
      go_wp2_with fail
      go_roundw
      case rel => exact ⟨k + 1, by omega, by go_num, HN.out⟩
      case measure => simp [intOf]; omega
    · obtain rfl : k = W := by omega
      have HR := Lib.hid hr.out
      have HBUF := Lib.hid (show Buf wr (w.heap.size + 1) _ (a.last free).brief by
        have := hr.out.buf
        rw [List.take_of_length_le (by rw [HL.out]; exact Nat.le_refl _)] at this
        exact this)
      have HT2 := Lib.hid (HT.out wr hr.out.below)
      clear hbox HT HOR
      cases h6 : a.six with
      | true =>
        have HE := Lib.hid (HEND.out h6)
        rw [h6] at HT2
        clear h6 HEND4
        go_wp2_with fail
        refine HT2.out.mono ?_
        rintro e w' ⟨v', rfl, hv, rfl⟩
        obtain rfl : v' = .slice none 0 0 := hv
        go_wp2_with fail
        go_ret
        refine ⟨_, rfl, ⟨?_, by rw [HE.out, HL.out]; omega⟩, HR.out.below⟩
        rw [HE.out]
        exact SlAt.of_owns HBUF.out
      | false =>
        obtain ⟨y, hy1, hy2⟩ := HEND4.out h6
        have hW4 : k = 4 := by rw [← HL.out, Ad.brief_length]; unfold Ad.width; rw [show (a.last free).six = a.six from rfl, h6]; rfl
        subst hW4
        rw [h6] at HT2
        have hown := HBUF.out
        unfold Buf at hown
        rw [HL.out] at hown
        obtain ⟨g, cap, hv3⟩ := owns_form hown (by omega)
        have hro := RowAt.of_owns (hv3 ▸ hown)
        have c3 := hro.1.cell 3 (by rw [HL.out]; omega)
        have z3 := hro.1.free 3
        rw [← hy2] at c3
        have HY := Lib.hid hy1
        have HRO := Lib.hid hro.1
        have hg := hro.2.1
        have hcap := hro.2.2.1
        have hcm : cap ≤ 9223372036854775807 := by have := hro.2.2.2.1; unfold maxLen at this; exact this
        have hylt : y.toNat ≤ 254 := by have := ((a.last free).brief.getD 3 0).toNat_lt; omega
        clear h6 HEND hy1 hy2 hown hro HBUF
        subst hv3
        go_wp2_with fail
        refine HT2.out.mono ?_
        rintro e w' ⟨v', rfl, hv, rfl⟩
        have hv2 : BriefAt wr v' a := hv
        obtain ⟨b2, o2, cap2, rfl, _⟩ := BriefAt.out hv2
        clear hv hv2
        go_wp2_with fail
        have hst := HRO.out.store 3 y
        rw [HY.out] at hst
        have hl4 : (a.endOf free).brief.length = 4 := by rw [← HY.out, List.length_set, HL.out]
        have hsl := hst.sl (cap := cap) (by omega) (by unfold maxLen; exact hcm)
        rw [hl4] at hsl
        go_ret
        exact ⟨_, rfl, ⟨hsl, by omega⟩, HR.out.below.setCell (by show w.heap.size ≤ g; omega) _⟩

theorem endOf_ok {a : Ad} {free : Nat} (ok : a.ok) (hf : free ≤ a.room) : (a.endOf free).ok := by
  have h := last_ok ok hf
  unfold Ad.endOf
  split
  · exact h
  · unfold Ad.ok at h ⊢
    exact Nat.lt_of_le_of_lt (Nat.sub_le _ _) h

end Go.Proofs.YtnehofekgnbelaaGreatDoor

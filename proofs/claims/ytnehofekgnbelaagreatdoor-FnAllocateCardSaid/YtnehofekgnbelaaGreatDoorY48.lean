/-
  The reference's desk: get, of 
-/
import Derived.Test.YtnehofekgnbelaaGreatDoorY47
namespace Go.Proofs.YtnehofekgnbelaaGreatDoor
open Go.RowKit
set_option linter.unusedVariables false
set_option maxRecDepth 100000
set_option maxHeartbeats 1000000
def yF (w : World) (base D : Nat) (Rs : List RIn) (d' : Desk) (g : Giv) (e : Ending) (w' : World) : Prop := e = .returned g.val ∧ SDesk w' base D Rs d' ∧ Fr tD base w w'
structure GetB (w : World) (base D OB : Nat) (Rs : List RIn) (d : Desk) (k : Int) (id at_ asked : ByteArray) (w0 : World) : Prop where
 op : w.heap[OB]? = some (.cells #[.int .i64 k, .string id, .string at_, .string asked] 45 (0, 0))
 gv : w.heap[OB + 1]? = some (.cells #[.string ⟨#[]⟩, .string ⟨#[]⟩, .bool false] 41 (0, 0))
 d : SDesk w base D Rs d
 fr : Fr tD base w0 w
 ob : w0.heap.size ≤ OB
 base : base ≤ w0.heap.size
theorem GetB.on {w w' w0 : World} {base D OB : Nat} {Rs : List RIn} {d : Desk} {k : Int} {id at_ asked : ByteArray} (h : GetB w base D OB Rs d k id at_ asked w0) (hb : Below w.heap.size w w') : GetB w' base D OB Rs d k id at_ asked w0 :=
 ⟨row_on hb h.op, row_on hb h.gv, h.d.on hb, h.fr.trans (Fr.of_below hb), h.ob, h.base⟩
theorem GetB.res {w w' w0 : World} {base D OB : Nat} {Rs : List RIn} {d d' : Desk} {k : Int} {id at_ asked : ByteArray} (h : GetB w base D OB Rs d k id at_ asked w0) (hd : SDesk w' base D Rs d') (hf : Fr tD base w w') : GetB w' base D OB Rs d' k id at_ asked w0 :=
 ⟨hf.rows _ _ _ _ h.op (by decide), hf.rows _ _ _ _ h.gv (by decide), hd, h.fr.trans hf, h.ob, h.base⟩
theorem GetB.start {w : World} {base D : Nat} {Rs : List RIn} {d : Desk} (h : SDesk w base D Rs d) (hB : base ≤ w.heap.size) (k : Int) (id at_ asked : ByteArray) : GetB ((w.alloc (.cells #[.int .i64 k, .string id, .string at_, .string asked] 45)).alloc (.cells #[.string ⟨#[]⟩, .string ⟨#[]⟩, .bool false] 41)) base D w.heap.size Rs d k id at_ asked w := by
 have hb : Below w.heap.size w ((w.alloc (.cells #[.int .i64 k, .string id, .string at_, .string asked] 45)).alloc (.cells #[.string ⟨#[]⟩, .string ⟨#[]⟩, .bool false] 41)) := ((Below.refl _ _).alloc (Nat.le_refl _) _).alloc (by simp) _
 refine ⟨(heap_alloc_old _ _ (by simp)).trans (heap_alloc_new w _), ?_, h.on hb, Fr.of_below hb, Nat.le_refl _, hB⟩
 have := heap_alloc_new (w.alloc (.cells #[.int .i64 k, .string id, .string at_, .string asked] 45)) (.cells #[.string ⟨#[]⟩, .string ⟨#[]⟩, .bool false] 41)
 rw [World.size_alloc] at this
 exact this
theorem GetB.fin {w w0 : World} {base D OB : Nat} {Rs : List RIn} {d : Desk} {k : Int} {id at_ asked : ByteArray} (h : GetB w base D OB Rs d k id at_ asked w0) (t0 t1 : ByteArray) (y : Bool) :
  SDesk (((w.setCell ⟨OB + 1, 0, none⟩ (.string t0)).setCell ⟨OB + 1, 1, none⟩ (.string t1)).setCell ⟨OB + 1, 2, none⟩ (.bool y)) base D Rs d ∧ Fr tD base w0 (((w.setCell ⟨OB + 1, 0, none⟩ (.string t0)).setCell ⟨OB + 1, 1, none⟩ (.string t1)).setCell ⟨OB + 1, 2, none⟩ (.bool y)) := by
 have hs := zbW (base := base) (t0 := t0) (t1 := t1) (y := y) h.gv (by have := h.ob; have := h.base; omega)
 have ho : w0.heap.size ≤ OB + 1 := by have := h.ob; omega
 exact ⟨h.d.fr hs.2 (by decide) (by decide) (by decide), h.fr.then ((((Below.refl _ _).setCell (by exact ho) _).setCell (by exact ho) _).setCell (by exact ho) _)⟩
theorem zgS (base D : Nat) (Rs : List RIn) (d : Desk) (k : Int) (id at_ asked : ByteArray) (a : Ad) (w : World) (h : SDesk w base D Rs d) (hg : ∀ R ∈ Rs, Good R) (h4 : Rs.length ≤ 1000) (hn : d.held.length ≤ 1000) (hB : base ≤ w.heap.size) (hra : readL (bl asked) = some a) (hok : a.ok) (hz : asked.size ≤ 64) (he : asked.toList.isEmpty = false) :
  Calls Tryz.prog 61 #[.pointer (some ⟨D, 0, none⟩), .agg #[.int .i64 k, .string id, .string at_, .string asked]] w (yF w base D Rs (d.got id at_ (askR Rs d.ads a)) (givR Rs (askR Rs d.ads a))) := by
 have heql : ∀ (w : World) (b b' : Bool) (x y : Int), _ := fun w b b' x y => xF w b b' x y
 have hge : ∀ (op : BinOp) (x y : Operand) (xs ys : Array Value) (w : World), _ := fun op x y xs ys w => yU op x y xs ys w
 have HSD := zh h
 have HG := zh hg
 have HRA := zh hra
 have HOK := zh hok
 have HB0 := zh (GetB.start h hB k id at_ asked)
 clear h hg hra hok
 go_enter Tryz.func61, Tryz.ntmps61
 go_wp2_with fail
 refine (read_any asked _ (by omega)).mono ?_
 rintro e w2 ⟨a2, ok, rfl, ha2, _, hb2⟩
 have hq : ok = true ∧ a2 = a := by
  rw [HRA.out] at ha2
  cases ok with
  | true => rw [if_pos rfl] at ha2; exact ⟨rfl, (Option.some.inj ha2).symm⟩
  | false => rw [if_neg (by decide)] at ha2; cases ha2
 obtain ⟨rfl, rfl⟩ := hq
 have HB2 := zh (HB0.out.on hb2)
 clear ha2 hb2 HB0
 obtain ⟨OB, hOB⟩ : ∃ OB, OB = w.heap.size := ⟨_, rfl⟩
 rw [← hOB] at HB2 ⊢
 have HOB := zh hOB
 clear hOB
 unfold adv
 go_wp2_with fail
 have hbx := heap_alloc_new w2 (.cells #[.bool a2.six, .int .u32 a2.n] 56)
 have hba : Below w2.heap.size w2 (w2.alloc (.cells #[.bool a2.six, .int .u32 a2.n] 56)) := (Below.refl _ _).alloc (Nat.le_refl _) _
 have HB3 := zh (HB2.out.on hba)
 have HBX := zh hbx
 clear hbx hba HB2
 obtain ⟨XB, hXB⟩ : ∃ XB, XB = w2.heap.size := ⟨_, rfl⟩
 rw [← hXB] at HBX ⊢
 clear hXB
 generalize w2.alloc (.cells #[.bool a2.six, .int .u32 a2.n] 56) = w3 at HB3 HBX ⊢
 refine (zaR base D Rs d a2 _ HB3.out.d h4).mono ?_
 rintro e w4 ⟨rfl, hb4⟩
 have HB := zh (HB3.out.on hb4)
 have hbx := row_on hb4 HBX.out
 have x0 : w4.cell? ⟨XB, 0, none⟩ = some (.bool a2.six) := cell_of_row w4 XB 0 _ _ _ hbx
 have x1 : w4.cell? ⟨XB, 1, none⟩ = some (.int .u32 a2.n) := cell_of_row w4 XB 1 _ _ _ hbx
 have lX := (Array.getElem?_eq_some_iff.1 hbx).1
 have HX4 := zh hbx
 clear hb4 hbx HB3 HBX
 cases hf : Rs.findIdx? fun R => inR R a2 with
 | none =>
  have HASK := zh (show askR Rs d.ads a2 = none by unfold askR; rw [hf])
  have hri : rngI Rs a2 = -1 := by unfold rngI; rw [hf]
  rw [hri]
  clear hri hf
  go_wp2_with fail
  go_quiet (fail)
  have HBQ := zh (HB.out.on (below_drewN (Below.refl w4.heap.size w4) nq))
  clear HB
  have HB := zh HBQ.out
  have hgv := HB.out.gv
  have r0 := cell_of_row _ (OB + 1) 0 _ _ _ hgv
  have r1 := cell_of_row _ (OB + 1) 1 _ _ _ hgv
  have r2 := cell_of_row _ (OB + 1) 2 _ _ _ hgv
  have z0 := frozen_of_row _ (OB + 1) 0 _ _ hgv
  have z1 := frozen_of_row _ (OB + 1) 1 _ _ hgv
  have z2 := frozen_of_row _ (OB + 1) 2 _ _ hgv
  clear hgv
  go_wp2_with fail
  refine bodyPost_ret (v := .agg #[.string ⟨#[]⟩, .string ⟨#[]⟩, .bool false]) (by simp [results, Tryz.results61, go_sem, r0, r1, r2]) rfl ?_
  rw [HASK.out]
  exact ⟨rfl, HB.out.fin _ _ _⟩
 | some i =>
  obtain ⟨hil, hin, _⟩ := List.findIdx?_eq_some_iff_getElem.1 hf
  have hR : Rs[i]? = some Rs[i] := List.getElem?_eq_getElem hil
  have hRm : Rs[i] ∈ Rs := List.getElem_mem hil
  have HAS := zh (show askR Rs d.ads a2 = if Rs[i]?.map zE = some a2 then none else if hasA d.ads a2 then none else some (i, a2) by unfold askR; rw [hf])
  have hri : rngI Rs a2 = i := by unfold rngI; rw [hf]
  rw [hri]
  clear hri hf hin
  generalize Rs[i] = R at hR hRm
  have HR := zh hR
  have HRM := zh hRm
  obtain ⟨sv, hv, la, hD, hset, hrow, hl⟩ := HB.out.d.rows
  obtain ⟨av, cv, rfl, hav⟩ := yK hset
  obtain ⟨g, rfl⟩ := hav (by omega)
  have cT : w4.cell? ⟨D, 0, none⟩ = some (.slice (some ⟨g, 0, none⟩) Rs.length cv) := cell_of_row w4 D 0 _ _ _ hD
  have lT := HB.out.d.lt
  have hc : ∀ c, c < 9 → w4.cell? ⟨g, i * 9 + c, none⟩ = (spanL R)[c]? := fun c hc => (hset.cellAt (i * 9 + c) (by omega)).trans (yZ _ _ _ _ hR hc)
  have q7 : w4.cell? ⟨g, i * 9 + 7, none⟩ = some (.bool (zE R).six) := hc 7 (by decide)
  have q8 : w4.cell? ⟨g, i * 9 + 8, none⟩ = some (.int .u32 (zE R).n) := hc 8 (by decide)
  have gz : g < w4.heap.size := World.block_lt_of_cell? w4 _ q7
  have tk : decide ((i : Int) < Rs.length) = true := decide_eq_true (by omega)
  have t0 : decide ((i : Int) < 0) = false := decide_eq_false (by omega)
  have p0 : (0 : Int) ≤ (i : Int) := by omega
  rw [hR] at HAS
  clear hD hset hrow hl hav hc hR hRm
  by_cases hgw : a2 = zE R
  ·have te : ((a2.six == (zE R).six) && ((a2.n : Int) == ((zE R).n : Int))) = true := by rw [xT, decide_eq_true hgw]
   have HASK := zh (show askR Rs d.ads a2 = none by rw [HAS.out, if_pos (by rw [hgw]; rfl)])
   clear hgw HAS
   go_wp2_with fail
   go_quiet (fail)
   have HBQ := zh (HB.out.on (below_drewN (Below.refl w4.heap.size w4) nq))
   clear HB cT q7 q8 x0 x1
   have HB := zh HBQ.out
   have hgv := HB.out.gv
   have r0 := cell_of_row _ (OB + 1) 0 _ _ _ hgv
   have r1 := cell_of_row _ (OB + 1) 1 _ _ _ hgv
   have r2 := cell_of_row _ (OB + 1) 2 _ _ _ hgv
   have z0 := frozen_of_row _ (OB + 1) 0 _ _ hgv
   have z1 := frozen_of_row _ (OB + 1) 1 _ _ hgv
   have z2 := frozen_of_row _ (OB + 1) 2 _ _ hgv
   clear hgv
   go_wp2_with fail
   refine bodyPost_ret (v := .agg #[.string ⟨#[]⟩, .string ⟨#[]⟩, .bool false]) (by simp [results, Tryz.results61, go_sem, r0, r1, r2]) rfl ?_
   rw [HASK.out]
   exact ⟨rfl, HB.out.fin _ _ _⟩
  ·have te : ((a2.six == (zE R).six) && ((a2.n : Int) == ((zE R).n : Int))) = false := by rw [xT, decide_eq_false hgw]
   rw [if_neg (show ¬ Option.map zE (some R) = some a2 from fun h => hgw (Option.some.inj h).symm)] at HAS
   clear hgw
   go_wp2_with fail
   have hop := HB.out.op
   have k0 := zG x0
   have k1 := zG x1
   have k2 := zG cT
   have k3 := zG q7
   have k4 := zG q8
   have k5 := zG (cell_of_row _ OB 1 _ _ _ hop)
   have k6 := zG (cell_of_row _ OB 2 _ _ _ hop)
   have HXK := zh (fun x => zaD HX4.out x)
   clear hop x0 x1 cT q7 q8
   refine yW 21 (by kernel_rfl) (by kernel_rfl) ?_
   simp only [List.take_succ_cons, List.take_zero]
   repeat (go_big_quiet_step (fail))
   refine wpQuiet_nil ?_
   intro _ hw'
   obtain ⟨x, rfl⟩ := hw'
   simp only [List.drop_succ_cons, List.drop_zero]
   have HBQ := zh (HB.out.on x.ok)
   have HX5 := zh (HXK.out x)
   clear k0 k1 k2 k3 k4 k5 k6 HXK HB
   generalize x.on = wx at HBQ HX5 ⊢
   go_wp2_with fail
   refine (xG base D Rs d a2 id at_ _ HBQ.out.d hn (Nat.le_trans hB HBQ.out.fr.size)).mono ?_
   rintro e w5 (⟨hh, rfl, hb5⟩ | ⟨hh, rfl, hs5, hf5⟩)
   ·have HASK := zh (show askR Rs d.ads a2 = none by rw [HAS.out, if_pos hh])
    have HB := zh (HBQ.out.on hb5)
    clear hh hb5 HAS HBQ
    have hgv := HB.out.gv
    have r0 := cell_of_row _ (OB + 1) 0 _ _ _ hgv
    have r1 := cell_of_row _ (OB + 1) 1 _ _ _ hgv
    have r2 := cell_of_row _ (OB + 1) 2 _ _ _ hgv
    have z0 := frozen_of_row _ (OB + 1) 0 _ _ hgv
    have z1 := frozen_of_row _ (OB + 1) 1 _ _ hgv
    have z2 := frozen_of_row _ (OB + 1) 2 _ _ hgv
    clear hgv
    go_wp2_with fail
    refine bodyPost_ret (v := .agg #[.string ⟨#[]⟩, .string ⟨#[]⟩, .bool false]) (by simp [results, Tryz.results61, go_sem, r0, r1, r2]) rfl ?_
    rw [HASK.out]
    exact ⟨rfl, HB.out.fin _ _ _⟩
   ·have HASK := zh (show askR Rs d.ads a2 = some (i, a2) by rw [HAS.out, if_neg (by rw [hh]; decide)])
    have HB := zh (HBQ.out.res hs5 hf5)
    have hbx := hf5.rows _ _ _ _ HX5.out (by decide)
    have x0 : w5.cell? ⟨XB, 0, none⟩ = some (.bool a2.six) := cell_of_row w5 XB 0 _ _ _ hbx
    have x1 : w5.cell? ⟨XB, 1, none⟩ = some (.int .u32 a2.n) := cell_of_row w5 XB 1 _ _ _ hbx
    have lX := (Array.getElem?_eq_some_iff.1 hbx).1
    clear hh hs5 hf5 HAS HBQ hbx
    have HGO := zh (xO (HG.out R HRM.out).k (HG.out R HRM.out).ok)
    have hfree : R.free ≤ 32 := by
     have h1 := (HG.out R HRM.out).k.room
     unfold Ad.room at h1
     split at h1 <;> omega
    go_wp2_with fail
    refine (zcL base D Rs _ a2 i R _ HB.out.d h4 HR.out HOK.out HGO.out hfree).mono ?_
    rintro e w6 ⟨rfl, hb6⟩
    have HBN := zh (HB.out.on hb6)
    clear hb6 HB x0 x1
    have HB := zh HBN.out
    clear HBN
    have hgv := HB.out.gv
    have r0 := cell_of_row _ (OB + 1) 0 _ _ _ hgv
    have r1 := cell_of_row _ (OB + 1) 1 _ _ _ hgv
    have r2 := cell_of_row _ (OB + 1) 2 _ _ _ hgv
    have z0 := frozen_of_row _ (OB + 1) 0 _ _ hgv
    have z1 := frozen_of_row _ (OB + 1) 1 _ _ hgv
    have z2 := frozen_of_row _ (OB + 1) 2 _ _ hgv
    clear hgv
    have HGIV := zh (show givR Rs (some (i, a2)) = ⟨netL a2 R.free, (zE R).text, true⟩ by unfold givR; simp only [HR.out])
    unfold Giv.val
    simp only
    generalize netL a2 R.free = nt at HGIV ⊢
    generalize (zE R).text = gt at HGIV ⊢
    go_wp2_with fail
    refine bodyPost_ret (v := .agg #[.string ⟨nt.toArray⟩, .string ⟨gt.toArray⟩, .bool true]) (by simp [results, Tryz.results61, go_sem, r0, r1, r2]) rfl ?_
    rw [HASK.out, HGIV.out]
    exact ⟨rfl, HB.out.fin _ _ _⟩
theorem ziZ {Rs : List RIn} {al : List Ad} {es : List Ent} {id at_ : ByteArray} {L : List (Nat × Ad)} {x : Ent} (hx : x ∈ es) (hw : whoB x.id x.at_ id at_ = true) (hr : Rs.any (fun R => inR R x.a) = true) : freeR Rs al (mineE es id at_) L = none := by
 unfold freeR
 rw [if_pos]
 rw [List.any_eq_true]
 exact ⟨x.a, List.mem_map.2 ⟨x, List.mem_filter.2 ⟨hx, hw⟩, rfl⟩, hr⟩
theorem zjA {Rs : List RIn} {al : List Ad} {es : List Ent} {id at_ : ByteArray} {last : Option Ad} (h : ∀ (j : Nat) (x : Ent), es[j]? = some x → (whoB x.id x.at_ id at_ && Rs.any fun R => inR R x.a) = false) :
  freeR Rs al (mineE es id at_) (rdL Rs last) = (xB Rs last).find? fun p => nonG Rs p && !hasA al p.2 := by
 unfold freeR
 rw [if_neg, rdL, List.find?_filter]
 ·congr 1
  funext p
  simp
 ·intro ha
  obtain ⟨a, h1, h2⟩ := List.any_eq_true.1 ha
  obtain ⟨x, hx, rfl⟩ := List.mem_map.1 h1
  obtain ⟨hx1, hx2⟩ := List.mem_filter.1 hx
  obtain ⟨j, hj⟩ := List.getElem?_of_mem hx1
  have := h j x hj
  rw [hx2, Bool.true_and] at this
  rw [this] at h2
  cases h2
theorem zmF {α : Type} {L : List α} {f : α → Bool} {k : Nat} {p : α} (h : L[k]? = some p) (hp : f p = true) (hno : ∀ (j : Nat) (q : α), j < k → L[j]? = some q → f q = false) : L.find? f = some p := by
 obtain ⟨hk, e⟩ := List.getElem?_eq_some_iff.1 h
 rw [List.find?_eq_some_iff_getElem]
 refine ⟨hp, k, hk, e, fun j hj => ?_⟩
 rw [hno j _ hj (List.getElem?_eq_getElem (by omega))]
 rfl
theorem zlB {α : Type} {L : List α} {f : α → Bool} (hno : ∀ (j : Nat) (q : α), j < L.length → L[j]? = some q → f q = false) : L.find? f = none := by
 rw [List.find?_eq_none]
 intro q hq
 obtain ⟨j, hj⟩ := List.getElem?_of_mem hq
 rw [hno j q (List.getElem?_eq_some_iff.1 hj).1 hj]
 decide
structure G2 (w : World) (base D OB : Nat) (Rs : List RIn) (d : Desk) (k0 : Int) (id at_ asked : ByteArray) (L : List (Nat × Ad)) (gA gI cA cI : Nat) (wr : World) : Prop where
 b : GetB wr base D OB Rs d k0 id at_ asked w
 a : ∃ b, OwnP wr b 56 2 isA gA L.length cA (flatA L)
 i : ∃ b, OwnP wr b 3 1 isI gI L.length cI (flatI L)
theorem G2.on {w wr w' : World} {base D OB : Nat} {Rs : List RIn} {d : Desk} {k0 : Int} {id at_ asked : ByteArray} {L : List (Nat × Ad)} {gA gI cA cI : Nat} (h : G2 w base D OB Rs d k0 id at_ asked L gA gI cA cI wr) (hb : Below wr.heap.size wr w') : G2 w base D OB Rs d k0 id at_ asked L gA gI cA cI w' := by
 obtain ⟨h1, ⟨b, h2⟩, b', h3⟩ := h
 exact ⟨h1.on hb, ⟨b, h2.on hb⟩, b', h3.on hb⟩
theorem zjB (base D : Nat) (Rs : List RIn) (d : Desk) (k0 : Int) (id at_ asked : ByteArray) (w : World) (h : SDesk w base D Rs d) (hg : ∀ R ∈ Rs, Good R) (hd : Dis Rs) (hne : 0 < Rs.length) (h4 : Rs.length ≤ 1000) (hlen : (zF 0 Rs).length ≤ 100000) (hn : d.held.length ≤ 1000) (hB : base ≤ w.heap.size) (he : asked.toList.isEmpty = true) :
  Calls Tryz.prog 61 #[.pointer (some ⟨D, 0, none⟩), .agg #[.int .i64 k0, .string id, .string at_, .string asked]] w (yF w base D Rs (d.got id at_ (freeR Rs d.ads (mineE d.held id at_) (rdL Rs d.last))) (givR Rs (freeR Rs d.ads (mineE d.held id at_) (rdL Rs d.last)))) := by
 have hneq : ∀ (w : World) (b b' : Bool) (x y : Int), _ := fun w b b' x y => zaL w b b' x y
 have hge : ∀ (op : BinOp) (x y : Operand) (xs ys : Array Value) (w : World), _ := fun op x y xs ys w => yU op x y xs ys w
 have HG := zh hg
 have HB0 := zh (GetB.start h hB k0 id at_ asked)
 have HRND := zh (fun (W : World) (hs : SDesk W base D Rs d) => zgR base D Rs d W hs hg hd hne h4 hlen)
 have HMEM := zh (show ∀ p, p ∈ xB Rs d.last → ∃ R, Rs[p.1]? = some R ∧ inR R p.2 = true from fun p hp => by
  have h2 : p ∈ zF 0 Rs := by
   rcases List.mem_append.1 hp with h1 | h1
   ·exact List.mem_of_mem_drop h1
   ·exact List.mem_of_mem_take h1
  obtain ⟨R, _, h3, h4⟩ := zZ Rs 0 p.1 p.2 (fun R hR => (hg R hR).rng) h2
  exact ⟨R, by simpa using h3, h4⟩)
 have hLlen : (xB Rs d.last).length ≤ 100000 := by
  have : (xB Rs d.last).length = (zF 0 Rs).length := by
   unfold xB
   rw [List.length_append, List.length_drop, List.length_take]
   omega
  omega
 obtain ⟨sv, hv, la, hD, hset, hrow, hl⟩ := h.rows
 obtain ⟨ao, cap, rfl, hc1, hc2, hnone, hsome⟩ := hrow.form
 have HN := zh hnone
 have HSM := zh hsome
 have HD := zh hD
 have lT := h.lt
 unfold maxLen at hc2
 have HB1 := zh (show Below w.heap.size w ((w.alloc (.cells #[.int .i64 k0, .string id, .string at_, .string asked] 45)).alloc (.cells #[.string ⟨#[]⟩, .string ⟨#[]⟩, .bool false] 41)) from ((Below.refl _ _).alloc (Nat.le_refl _) _).alloc (by simp) _)
 clear h hg hd hD hset hrow hl hnone hsome
 go_enter Tryz.func61, Tryz.ntmps61
 have cT : w.cell? ⟨D, 1, none⟩ = some (.slice ao d.held.length cap) := cell_of_row w D 1 _ _ _ HD.out
 go_wp2_with fail
 clear cT
 obtain ⟨OB, hOB⟩ : ∃ OB, OB = w.heap.size := ⟨_, rfl⟩
 rw [← hOB] at HB0 ⊢
 have HOB := zh hOB
 clear hOB
 generalize (w.alloc (.cells #[.int .i64 k0, .string id, .string at_, .string asked] 45)).alloc (.cells #[.string ⟨#[]⟩, .string ⟨#[]⟩, .bool false] 41) = w1 at HB0 HB1 ⊢
 go_loopw [60] (fun i wr => ∃ k : Nat, i = .int .i64 k ∧ k ≤ d.held.length ∧ Hid (Below w1.heap.size w1 wr ∧ ∀ (j : Nat) (x : Ent), j < k → d.held[j]? = some x → (whoB x.id x.at_ id at_ && Rs.any fun R => inR R x.a) = false)) (fun i _ => d.held.length - (intOf i).toNat)
 case atStart => exact ⟨0, rfl, by omega, zh ⟨Below.refl _ _, fun j x hj => absurd hj (by omega)⟩⟩
 case round =>
  obtain ⟨k, rfl, hk, hr⟩ := hrel
  have HBr := zh (HB0.out.on hr.out.1)
  by_cases hlt : k < d.held.length
  ·have tk : decide ((k : Int) < d.held.length) = true := decide_eq_true (by omega)
   obtain ⟨ad, hao⟩ : ∃ ad, ao = some ad := by
    cases ao with
    | none => have := (HN.out rfl).1; omega
    | some ad => exact ⟨ad, rfl⟩
   obtain ⟨g, hg, ho⟩ := HSM.out ad hao
   subst hg
   subst hao
   have hx : d.held[k]? = some d.held[k] := List.getElem?_eq_getElem hlt
   have hcell : ∀ c, c < 4 → wr.cell? ⟨g, k * 4 + c, none⟩ = d.held[k].vals[c]? := fun c hc => by
    rw [hr.out.1.cell (Nat.lt_of_lt_of_le ho.lt HB1.out.size), HB1.out.cell ho.lt, ho.cell (k * 4 + c) (by omega), zaB d.held k c _ hx hc]
   have hglt := Nat.lt_of_lt_of_le (Nat.lt_of_lt_of_le ho.lt HB1.out.size) hr.out.1.size
   generalize d.held[k] = x at *
   obtain ⟨xa, xid, xat⟩ := x
   have c0 : wr.cell? ⟨g, k * 4, none⟩ = some (.bool xa.six) := hcell 0 (by decide)
   have c1 : wr.cell? ⟨g, k * 4 + 1, none⟩ = some (.int .u32 xa.n) := hcell 1 (by decide)
   have c2 : wr.cell? ⟨g, k * 4 + 2, none⟩ = some (.string xid) := hcell 2 (by decide)
   have c3 : wr.cell? ⟨g, k * 4 + 3, none⟩ = some (.string xat) := hcell 3 (by decide)
   have HX := zh hx
   have p1 : (0 : Int) ≤ (k : Int) := by omega
   have hop := HBr.out.op
   have o1 := cell_of_row _ OB 1 _ _ _ hop
   have o2 := cell_of_row _ OB 2 _ _ _ hop
   have lO := (Array.getElem?_eq_some_iff.1 hop).1
   have hba : Below wr.heap.size wr (wr.alloc (.cells #[.bool xa.six, .int .u32 xa.n, .string xid, .string xat] 87)) := (Below.refl _ _).alloc (Nat.le_refl _) _
   have HBA := zh (below_tr hr.out.1 hba)
   have HBB := zh (HBr.out.on hba)
   clear hcell ho hx hop hba
   cases b1 : (xid.toList == id.toList) with
   | false =>
    have HW := zh (show (whoB xid xat id at_ && Rs.any fun R => inR R xa) = false by unfold whoB; rw [b1]; rfl)
    go_wp2_with fail
    go_roundw
    case rel => exact ⟨k + 1, by simp, by omega, zh ⟨HBA.out, fun j y hj hjy => by
     by_cases e : j = k
     ·subst e
      rw [HX.out] at hjy
      cases hjy
      exact HW.out
     ·exact hr.out.2 j y (by omega) hjy⟩⟩
    case measure => simp [intOf]; omega
   | true =>
    cases b2 : (xat.toList == at_.toList) with
    | false =>
     have HW := zh (show (whoB xid xat id at_ && Rs.any fun R => inR R xa) = false by unfold whoB; rw [b2, Bool.and_false]; rfl)
     go_wp2_with fail
     go_roundw
     case rel => exact ⟨k + 1, by simp, by omega, zh ⟨HBA.out, fun j y hj hjy => by
      by_cases e : j = k
      ·subst e
       rw [HX.out] at hjy
       cases hjy
       exact HW.out
      ·exact hr.out.2 j y (by omega) hjy⟩⟩
     case measure => simp [intOf]; omega
    | true =>
     have HW2 := zh (show whoB xid xat id at_ = true by unfold whoB; rw [b1, b2]; rfl)
     go_wp2_with fail
     refine (zaR base D Rs d xa _ HBB.out.d h4).mono ?_
     rintro e w4 ⟨rfl, hb4⟩
     have HB4 := zh (below_tr HBA.out hb4)
     have HBC := zh (HBB.out.on hb4)
     clear hb4 HBA HBB c0 c1 c2 c3 o1 o2
     cases hf : Rs.findIdx? fun R => inR R xa with
     | none =>
      have hri : rngI Rs xa = -1 := by unfold rngI; rw [hf]
      have HW := zh (show (whoB xid xat id at_ && Rs.any fun R => inR R xa) = false by
       rw [HW2.out, Bool.true_and, List.any_eq_false]
       intro R hR
       rw [List.findIdx?_eq_none_iff.1 hf R hR]
       decide)
      rw [hri]
      clear hri hf
      have HBA := zh HB4.out
      clear HB4
      go_wp2_with fail
      go_roundw
      case rel => exact ⟨k + 1, by simp, by omega, zh ⟨HBA.out, fun j y hj hjy => by
       by_cases e : j = k
       ·subst e
        rw [HX.out] at hjy
        cases hjy
        exact HW.out
       ·exact hr.out.2 j y (by omega) hjy⟩⟩
      case measure => simp [intOf]; omega
     | some i =>
      have hri : rngI Rs xa = i := by unfold rngI; rw [hf]
      obtain ⟨hil, hin, _⟩ := List.findIdx?_eq_some_iff_getElem.1 hf
      have HASK := zh (ziZ (al := d.ads) (L := rdL Rs d.last) (List.mem_of_getElem? HX.out) HW2.out (List.any_eq_true.2 ⟨_, List.getElem_mem hil, hin⟩))
      rw [hri]
      have t1 : decide ((0 : Int) ≤ (i : Int)) = true := decide_eq_true (by omega)
      clear hri hf
      have HB := zh HBC.out
      have hgv := HB.out.gv
      have r0 := cell_of_row _ (OB + 1) 0 _ _ _ hgv
      have r1 := cell_of_row _ (OB + 1) 1 _ _ _ hgv
      have r2 := cell_of_row _ (OB + 1) 2 _ _ _ hgv
      have z0 := frozen_of_row _ (OB + 1) 0 _ _ hgv
      have z1 := frozen_of_row _ (OB + 1) 1 _ _ hgv
      have z2 := frozen_of_row _ (OB + 1) 2 _ _ hgv
      clear hgv
      go_wp2_with fail
      refine bodyPost_ret (v := .agg #[.string ⟨#[]⟩, .string ⟨#[]⟩, .bool false]) (by simp [results, Tryz.results61, go_sem, r0, r1, r2]) rfl ?_
      rw [HASK.out]
      exact ⟨rfl, HB.out.fin _ _ _⟩
  ·obtain rfl : k = d.held.length := by omega
   have tk : decide ((d.held.length : Int) < d.held.length) = false := decide_eq_false (by omega)
   have HFR := zh (zjA (al := d.ads) (last := d.last) (fun j x hj => hr.out.2 j x (List.getElem?_eq_some_iff.1 hj).1 hj))
   go_wp2_with fail
   refine (HRND.out _ HBr.out.d).mono ?_
   rintro e w5 ⟨gA, gI, cA, cI, rfl, hb5, hA5, hI5⟩
   have HB5 := zh (HBr.out.on hb5)
   have HA5 := zh hA5
   have HI5 := zh hI5
   have hcA := hA5.2.2.1
   have hcI := hI5.2.2.1
   have hmA := hA5.2.2.2.1
   have hmI := hI5.2.2.2.1
   unfold maxLen at hmA hmI
   clear hb5 hA5 hI5 hr HBr HRND
   generalize xB Rs d.last = L at *
   have HX2 := zh (show G2 w base D OB Rs d k0 id at_ asked L gA gI cA cI w5 from ⟨HB5.out, ⟨_, HA5.out⟩, _, HI5.out⟩)
   clear HB5 HA5 HI5
   go_wp2_with fail
   generalize w5 = w6 at HX2 ⊢
   go_loopw [92] (fun i wr => ∃ k : Nat, i = .int .i64 k ∧ k ≤ L.length ∧ Hid (G2 w base D OB Rs d k0 id at_ asked L gA gI cA cI wr ∧ ∀ (j : Nat) (p : Nat × Ad), j < k → L[j]? = some p → (nonG Rs p && !hasA d.ads p.2) = false)) (fun i _ => L.length - (intOf i).toNat)
   case atStart => exact ⟨0, rfl, by omega, zh ⟨HX2.out, fun j p hj => absurd hj (by omega)⟩⟩
   case round =>
    obtain ⟨k, rfl, hk, hr⟩ := hrel
    by_cases hlt : k < L.length
    ·have tk : decide ((k : Int) < L.length) = true := decide_eq_true (by omega)
     have hp : L[k]? = some L[k] := List.getElem?_eq_getElem hlt
     obtain ⟨R, hR, hin⟩ := HMEM.out _ (List.getElem_mem hlt)
     generalize L[k] = p at hp hR hin
     obtain ⟨pi, pa⟩ := p
     simp only at hR hin
     have HLK := zh hp
     have HR := zh hR
     have HRM := zh (List.mem_of_getElem? hR)
     have hpil := (List.getElem?_eq_some_iff.1 hR).1
     have HOK := zh ((HG.out R HRM.out).ads hin)
     have HX := zh hr.out.1
     obtain ⟨bA, hA⟩ := HX.out.a
     have c0 : wr.cell? ⟨gA, k * 2, none⟩ = some (.bool pa.six) := (hA.cell (k * 2) (by omega)).trans (zbE _ k 0 _ hp (by decide))
     have c1 : wr.cell? ⟨gA, k * 2 + 1, none⟩ = some (.int .u32 pa.n) := (hA.cell (k * 2 + 1) (by omega)).trans (zbE _ k 1 _ hp (by decide))
     have lA := hA.lt
     have p1 : (0 : Int) ≤ (k : Int) := by omega
     have p2 : (0 : Int) ≤ (pi : Int) := by omega
     have tpi : decide ((pi : Int) < Rs.length) = true := decide_eq_true (by omega)
     have hNG := xW (p := (pi, pa)) hR
     have HNO := zh hr.out.2
     clear hA hp hR hin hr
     go_wp2_with fail
     have hbx := heap_alloc_new wr (.cells #[.bool pa.six, .int .u32 pa.n] 56)
     have HXA := zh (HX.out.on ((Below.refl wr.heap.size wr).alloc (Nat.le_refl _) (.cells #[.bool pa.six, .int .u32 pa.n] 56)))
     obtain ⟨XB, hXB⟩ : ∃ XB, XB = wr.heap.size := ⟨_, rfl⟩
     rw [← hXB] at hbx ⊢
     have HBX := zh hbx
     clear hXB c0 c1 lA HX hbx
     generalize wr.alloc (.cells #[.bool pa.six, .int .u32 pa.n] 56) = wX at HXA HBX ⊢
     have x0 : wX.cell? ⟨XB, 0, none⟩ = some (.bool pa.six) := cell_of_row wX XB 0 _ _ _ HBX.out
     have x1 : wX.cell? ⟨XB, 1, none⟩ = some (.int .u32 pa.n) := cell_of_row wX XB 1 _ _ _ HBX.out
     have lX := (Array.getElem?_eq_some_iff.1 HBX.out).1
     obtain ⟨bI, hI⟩ := HXA.out.i
     have ci : wX.cell? ⟨gI, k, none⟩ = some (.int .i64 pi) := (hI.cell k (by omega)).trans (zfP _ k _ HLK.out)
     have lI := hI.lt
     obtain ⟨sv2, hv2, la2, hD2, hset2, _, _⟩ := HXA.out.b.d.rows
     obtain ⟨av, cv, rfl, hav⟩ := yK hset2
     obtain ⟨g, rfl⟩ := hav (by omega)
     have cT : wX.cell? ⟨D, 0, none⟩ = some (.slice (some ⟨g, 0, none⟩) Rs.length cv) := cell_of_row wX D 0 _ _ _ hD2
     have lD := HXA.out.b.d.lt
     have hc : ∀ c, c < 9 → wX.cell? ⟨g, pi * 9 + c, none⟩ = (spanL R)[c]? := fun c hc => (hset2.cellAt (pi * 9 + c) (by omega)).trans (yZ _ _ _ _ HR.out hc)
     have q7 : wX.cell? ⟨g, pi * 9 + 7, none⟩ = some (.bool (zE R).six) := hc 7 (by decide)
     have q8 : wX.cell? ⟨g, pi * 9 + 8, none⟩ = some (.int .u32 (zE R).n) := hc 8 (by decide)
     have gz : g < wX.heap.size := World.block_lt_of_cell? wX _ q7
     clear hI hD2 hset2 hav hc
     by_cases hgw : pa = zE R
     ·have te : ((pa.six == (zE R).six) && ((pa.n : Int) == ((zE R).n : Int))) = true := by rw [xT, decide_eq_true hgw]
      have HW := zh (show (nonG Rs (pi, pa) && !hasA d.ads pa) = false by
       rw [show nonG Rs (pi, pa) = false from Bool.eq_false_iff.2 (fun h => hNG.1 h hgw)]
       rfl)
      clear hgw hNG
      go_quiet (fail)
      have HXN := zh (HXA.out.on (below_drewN (Below.refl wX.heap.size wX) nq))
      clear HXA cT q7 q8 x0 x1 ci
      go_wp2_with fail
      go_roundw
      case rel => exact ⟨k + 1, by simp, by omega, zh ⟨HXN.out, fun j q hj hjq => by
       by_cases e : j = k
       ·subst e
        rw [HLK.out] at hjq
        cases hjq
        exact HW.out
       ·exact HNO.out j q (by omega) hjq⟩⟩
      case measure => simp [intOf]; omega
     ·have te : ((pa.six == (zE R).six) && ((pa.n : Int) == ((zE R).n : Int))) = false := by rw [xT, decide_eq_false hgw]
      have HNG := zh (show nonG Rs (pi, pa) = true from hNG.2 hgw)
      clear hgw hNG
      have hop := HXA.out.b.op
      have k0' := zG x0
      have k1' := zG x1
      have k2' := zG cT
      have k3' := zG q7
      have k4' := zG q8
      have k5' := zG (cell_of_row _ OB 1 _ _ _ hop)
      have k6' := zG (cell_of_row _ OB 2 _ _ _ hop)
      have k7' := zG ci
      have HXK := zh (fun x => zaD HBX.out x)
      clear hop x0 x1 cT q7 q8 ci
      refine yW 20 (by kernel_rfl) (by kernel_rfl) ?_
      simp only [List.take_succ_cons, List.take_zero]
      repeat (go_big_quiet_step (fail))
      refine wpQuiet_nil ?_
      intro _ hw'
      obtain ⟨x, rfl⟩ := hw'
      simp only [List.drop_succ_cons, List.drop_zero]
      have HBQ := zh (HXA.out.on x.ok)
      have HX5 := zh (HXK.out x)
      clear k0' k1' k2' k3' k4' k5' k6' k7' HXK HXA
      generalize x.on = wx at HBQ HX5 ⊢
      go_wp2_with fail
      refine (xG base D Rs d pa id at_ _ HBQ.out.b.d hn (Nat.le_trans hB HBQ.out.b.fr.size)).mono ?_
      rintro e w5 (⟨hh, rfl, hb5⟩ | ⟨hh, rfl, hs5, hf5⟩)
      ·have HW := zh (show (nonG Rs (pi, pa) && !hasA d.ads pa) = false by rw [hh, HNG.out]; rfl)
       have HXN := zh (HBQ.out.on hb5)
       clear hh hb5 HBQ
       go_wp2_with fail
       go_roundw
       case rel => exact ⟨k + 1, by simp, by omega, zh ⟨HXN.out, fun j q hj hjq => by
        by_cases e : j = k
        ·subst e
         rw [HLK.out] at hjq
         cases hjq
         exact HW.out
        ·exact HNO.out j q (by omega) hjq⟩⟩
       case measure => simp [intOf]; omega
      ·have HASK := zh (show freeR Rs d.ads (mineE d.held id at_) (rdL Rs d.last) = some (pi, pa) by
        rw [HFR.out]
        exact zmF HLK.out (by simp only [HNG.out, hh]; rfl) HNO.out)
       have HB := zh (HBQ.out.b.res hs5 hf5)
       have hbx := hf5.rows _ _ _ _ HX5.out (by decide)
       obtain ⟨bI, hI⟩ := HBQ.out.i
       have hI := hI.fr hf5 (by decide)
       have ci : w5.cell? ⟨gI, k, none⟩ = some (.int .i64 pi) := (hI.cell k (by omega)).trans (zfP _ k _ HLK.out)
       have lI5 := hI.lt
       have k0' := zG (cell_of_row w5 XB 0 _ _ _ hbx)
       have k1' := zG (cell_of_row w5 XB 1 _ _ _ hbx)
       have k2' := zG ci
       have lX5 := (Array.getElem?_eq_some_iff.1 hbx).1
       clear hh hs5 hf5 HBQ hbx hI ci
       go_wp2_with fail
       refine yW 6 (by kernel_rfl) (by kernel_rfl) ?_
       simp only [List.take_succ_cons, List.take_zero]
       repeat (go_big_quiet_step (fail))
       refine wpQuiet_nil ?_
       intro _ hw'
       obtain ⟨x, rfl⟩ := hw'
       simp only [List.drop_succ_cons, List.drop_zero]
       have HBR := zh (HB.out.on x.ok)
       clear HB k0' k1' k2'
       have HB := zh HBR.out
       clear HBR
       generalize x.on = w7 at HB ⊢
       have HGO := zh (xO (HG.out R HRM.out).k (HG.out R HRM.out).ok)
       have hfree : R.free ≤ 32 := by
        have h1 := (HG.out R HRM.out).k.room
        unfold Ad.room at h1
        split at h1 <;> omega
       go_wp2_with fail
       refine (zcL base D Rs _ pa pi R _ HB.out.d h4 HR.out HOK.out HGO.out hfree).mono ?_
       rintro e w8 ⟨rfl, hb8⟩
       have HBN := zh (HB.out.on hb8)
       clear hb8 HB
       have HB := zh HBN.out
       clear HBN
       have hgv := HB.out.gv
       have r0 := cell_of_row _ (OB + 1) 0 _ _ _ hgv
       have r1 := cell_of_row _ (OB + 1) 1 _ _ _ hgv
       have r2 := cell_of_row _ (OB + 1) 2 _ _ _ hgv
       have z0 := frozen_of_row _ (OB + 1) 0 _ _ hgv
       have z1 := frozen_of_row _ (OB + 1) 1 _ _ hgv
       have z2 := frozen_of_row _ (OB + 1) 2 _ _ hgv
       clear hgv
       have HGIV := zh (show givR Rs (some (pi, pa)) = ⟨netL pa R.free, (zE R).text, true⟩ by unfold givR; simp only [HR.out])
       unfold Giv.val
       simp only
       generalize netL pa R.free = nt at HGIV ⊢
       generalize (zE R).text = gt at HGIV ⊢
       go_wp2_with fail
       refine bodyPost_ret (v := .agg #[.string ⟨nt.toArray⟩, .string ⟨gt.toArray⟩, .bool true]) (by simp [results, Tryz.results61, go_sem, r0, r1, r2]) rfl ?_
       rw [HASK.out, HGIV.out]
       exact ⟨rfl, HB.out.fin _ _ _⟩
    ·obtain rfl : k = L.length := by omega
     have tk : decide ((L.length : Int) < L.length) = false := decide_eq_false (by omega)
     have HASK := zh (show freeR Rs d.ads (mineE d.held id at_) (rdL Rs d.last) = none by
      rw [HFR.out]
      exact zlB hr.out.2)
     have HB := zh hr.out.1.b
     clear hr
     have hgv := HB.out.gv
     have r0 := cell_of_row _ (OB + 1) 0 _ _ _ hgv
     have r1 := cell_of_row _ (OB + 1) 1 _ _ _ hgv
     have r2 := cell_of_row _ (OB + 1) 2 _ _ _ hgv
     have z0 := frozen_of_row _ (OB + 1) 0 _ _ hgv
     have z1 := frozen_of_row _ (OB + 1) 1 _ _ hgv
     have z2 := frozen_of_row _ (OB + 1) 2 _ _ hgv
     clear hgv
     go_wp2_with fail
     refine bodyPost_ret (v := .agg #[.string ⟨#[]⟩, .string ⟨#[]⟩, .bool false]) (by simp [results, Tryz.results61, go_sem, r0, r1, r2]) rfl ?_
     rw [HASK.out]
     exact ⟨rfl, HB.out.fin _ _ _⟩
end Go.Proofs.YtnehofekgnbelaaGreatDoor

/-
  The reference's desk: step.
-/
import Derived.Test.YtnehofekgnbelaaGreatDoorY48
import Derived.Lib.Join
namespace Go.Proofs.YtnehofekgnbelaaGreatDoor
open Go.RowKit
set_option linter.unusedVariables false
set_option maxRecDepth 100000
set_option maxHeartbeats 1000000
theorem zmG (a : Ad) : a.text ≠ [] := by
 unfold Ad.text
 split
 ·simp [preL]
 ·unfold quadL
  intro h
  have := congrArg List.length h
  simp at this
theorem zeH (l : List (List UInt8)) (t : List UInt8) : Lib.join (l ++ [t]) [44] = if l = [] then t else Lib.join l [44] ++ [44] ++ t := by
 cases l with
 | nil => rw [if_pos rfl, List.nil_append, Lib.join_one]
 | cons x r =>
  rw [if_neg (by simp), List.cons_append, Lib.join_cons, Lib.join_cons]
  simp [Lib.joinTail]
theorem zjC {l : List (List UInt8)} (h : ∀ t ∈ l, t ≠ []) : Lib.join l [44] = [] ↔ l = [] := by
 cases l with
 | nil => simp [Lib.join_nil]
 | cons x r =>
  rw [Lib.join_cons]
  have := h x (by simp)
  simp [this]
theorem zlC (base D : Nat) (Rs : List RIn) (d : Desk) (o : OpIn) (w : World) (h : SDesk w base D Rs d) (hg : ∀ R ∈ Rs, Good R) (hd : Dis Rs) (hne : 0 < Rs.length) (h4 : Rs.length ≤ 1000) (hlen : (zF 0 Rs).length ≤ 100000) (hn : d.held.length ≤ 1000) (hB : base ≤ w.heap.size) (ho : OpOK o) (hk : o.kind = 0) (k : Int) :
  Calls Tryz.prog 61 #[.pointer (some ⟨D, 0, none⟩), .agg #[.int .i64 k, .string o.id, .string o.at_, .string o.asked]] w (yF w base D Rs (stepD Rs (rdL Rs) d o).2 (stepD Rs (rdL Rs) d o).1) := by
 have e : stepD Rs (rdL Rs) d o = (givR Rs (getR Rs (rdL Rs) d o.id o.at_ o.ad), d.got o.id o.at_ (getR Rs (rdL Rs) d o.id o.at_ o.ad)) := by
  unfold stepD
  rw [hk]
  rfl
 rw [e]
 unfold getR
 cases had : o.ad with
 | none =>
  have h0 := ho.no had
  exact zjB base D Rs d k o.id o.at_ o.asked w h hg hd hne h4 hlen hn hB (by rw [h0, Lib.toList_data]; rfl)
 | some a =>
  obtain ⟨h1, h2, h3, h5⟩ := ho.yes a had
  exact zgS base D Rs d k o.id o.at_ o.asked a w h hg h4 hn hB h1 h2 h3 h5
theorem zjD (base D : Nat) (Rs : List RIn) (d : Desk) (id at_ asked : ByteArray) (d' : Desk) (g : Giv) (w : World) (h : SDesk w base D Rs d) (hB : base ≤ w.heap.size)
  (HG : ∀ W, SDesk W base D Rs d → base ≤ W.heap.size → Calls Tryz.prog 61 #[.pointer (some ⟨D, 0, none⟩), .agg #[.int .i64 0, .string id, .string at_, .string asked]] W (yF W base D Rs d' g)) :
  Calls Tryz.prog 36 #[.pointer (some ⟨D, 0, none⟩), .agg #[.int .i64 0, .string id, .string at_, .string asked]] w (yF w base D Rs d' g) := by
 have HB0 := zh (GetB.start h hB 0 id at_ asked)
 have HGG := zh HG
 clear h HG
 go_enter Tryz.func36, Tryz.ntmps36
 go_wp2_with fail
 refine (HGG.out _ HB0.out.d (Nat.le_trans hB HB0.out.fr.size)).mono ?_
 rintro e w2 ⟨rfl, hs2, hf2⟩
 have HB := zh (HB0.out.res hs2 hf2)
 clear hs2 hf2 HB0 HGG
 obtain ⟨OB, hOB⟩ : ∃ OB, OB = w.heap.size := ⟨_, rfl⟩
 rw [← hOB] at HB ⊢
 clear hOB
 obtain ⟨ga, gg, gk⟩ := g
 unfold Giv.val
 simp only
 have hgv := HB.out.gv
 have r0 := cell_of_row _ (OB + 1) 0 _ _ _ hgv
 have r1 := cell_of_row _ (OB + 1) 1 _ _ _ hgv
 have r2 := cell_of_row _ (OB + 1) 2 _ _ _ hgv
 have z0 := frozen_of_row _ (OB + 1) 0 _ _ hgv
 have z1 := frozen_of_row _ (OB + 1) 1 _ _ hgv
 have z2 := frozen_of_row _ (OB + 1) 2 _ _ hgv
 clear hgv
 go_wp2_with fail
 refine bodyPost_ret (v := .agg #[.string ⟨ga.toArray⟩, .string ⟨gg.toArray⟩, .bool gk]) (by simp [results, Tryz.results36, go_sem, r0, r1, r2]) rfl ?_
 exact ⟨rfl, HB.out.fin _ _ _⟩
theorem OwnP.low {w : World} {base b : Nat} {e : TypeId} {size : Nat} {p : Value → Prop} {g n cap : Nat} {xs : List Value} (h : OwnP w base e size p g n cap xs) (hb : b ≤ base) : OwnP w b e size p g n cap xs := ⟨h.1, Nat.le_trans hb h.2.1, h.2.2⟩
theorem zjE (base D : Nat) (Rs : List RIn) (d : Desk) (id at_ asked : ByteArray) (w : World) (h : SDesk w base D Rs d) (hB : base ≤ w.heap.size) (hn : d.held.length ≤ 1000) :
  Calls Tryz.prog 36 #[.pointer (some ⟨D, 0, none⟩), .agg #[.int .i64 1, .string id, .string at_, .string asked]] w (yF w base D Rs ⟨d.held.filter fun e => !whoB e.id e.at_ id at_, d.last⟩ ⟨[], [], true⟩) := by
 have HB0 := zh (GetB.start h hB 1 id at_ asked)
 obtain ⟨sv, hv, la, hD, hset, hrow, hl⟩ := h.rows
 obtain ⟨ao, cap, rfl, hc1, hc2, hnone, hsome⟩ := hrow.form
 have HN := zh hnone
 have HSM := zh hsome
 have HD := zh hD
 have HS := zh h
 have lT := h.lt
 unfold maxLen at hc2
 obtain ⟨i0, hi', hz⟩ := Option.map_eq_some_iff.1 zlK
 simp only [Prod.mk.injEq] at hz
 obtain ⟨hz0, hz1, hz2⟩ := hz
 have HI0 := zh hi'
 have HZ0 := zh hz0
 have HZ1 := zh hz1
 have HZ2 := zh hz2
 have HB1 := zh (show Below w.heap.size w ((w.alloc (.cells #[.int .i64 1, .string id, .string at_, .string asked] 45)).alloc (.cells #[.string ⟨#[]⟩, .string ⟨#[]⟩, .bool false] 41)) from ((Below.refl _ _).alloc (Nat.le_refl _) _).alloc (by simp) _)
 have cT : w.cell? ⟨D, 1, none⟩ = some (.slice ao d.held.length cap) := cell_of_row w D 1 _ _ _ hD
 have lT1 : D < w.heap.size + 1 := by omega
 have lT2 : D < w.heap.size + 1 + 1 := by omega
 clear h hD hset hrow hl hnone hsome hi' hz0 hz1 hz2
 go_enter Tryz.func36, Tryz.ntmps36
 go_wp2_with fail
 clear cT lT1 lT2
 have HW2 := zh (show OwnP (((w.alloc (.cells #[.int .i64 1, .string id, .string at_, .string asked] 45)).alloc (.cells #[.string ⟨#[]⟩, .string ⟨#[]⟩, .bool false] 41)).alloc (.cells #[] 87)) w.heap.size 87 4 isSh (w.heap.size + 1 + 1) 0 0 [] from by
  have := yN ((w.alloc (.cells #[.int .i64 1, .string id, .string at_, .string asked] 45)).alloc (.cells #[.string ⟨#[]⟩, .string ⟨#[]⟩, .bool false] 41)) w.heap.size 87 4 isSh (by simp; omega)
  rw [World.size_alloc, World.size_alloc] at this
  exact this)
 have hb2 : Below w.heap.size w (((w.alloc (.cells #[.int .i64 1, .string id, .string at_, .string asked] 45)).alloc (.cells #[.string ⟨#[]⟩, .string ⟨#[]⟩, .bool false] 41)).alloc (.cells #[] 87)) := HB1.out.alloc HB1.out.size _
 have HB2 := zh hb2
 have HBG := zh (HB0.out.on ((Below.refl _ _).alloc (Nat.le_refl _) (.cells #[] 87)))
 clear hb2 HB0 HB1
 obtain ⟨OB, hOB⟩ : ∃ OB, OB = w.heap.size := ⟨_, rfl⟩
 rw [← hOB] at HBG HW2 ⊢
 have HOB := zh hOB
 clear hOB
 generalize ((w.alloc (.cells #[.int .i64 1, .string id, .string at_, .string asked] 45)).alloc (.cells #[.string ⟨#[]⟩, .string ⟨#[]⟩, .bool false] 41)).alloc (.cells #[] 87) = w1 at HBG HW2 HB2 ⊢
 go_loopw [5, 26] (fun v i wr => ∃ k m gr cr : Nat, i = .int .i64 k ∧ k ≤ d.held.length ∧ m ≤ k ∧ v = .slice (some ⟨gr, 0, none⟩) m cr ∧ Hid (Below OB w wr ∧ wr.heap[OB]? = some (.cells #[.int .i64 1, .string id, .string at_, .string asked] 45 (0, 0)) ∧ wr.heap[OB + 1]? = some (.cells #[.string ⟨#[]⟩, .string ⟨#[]⟩, .bool false] 41 (0, 0)) ∧ m = ((d.held.take k).filter fun e => !whoB e.id e.at_ id at_).length ∧ OwnP wr OB 87 4 isSh gr m cr (flatE ((d.held.take k).filter fun e => !whoB e.id e.at_ id at_)))) (fun _ i _ => d.held.length - (intOf i).toNat)
 case atStart => exact ⟨0, 0, OB + 1 + 1, 0, rfl, by omega, by omega, rfl, zh ⟨by rw [HOB.out]; exact HB2.out, HBG.out.op, HBG.out.gv, by simp, by simpa [flatE] using HW2.out⟩⟩
 case round =>
  obtain ⟨k, m, gr, cr, rfl, hk, hmk, rfl, hr⟩ := hrel
  obtain ⟨hbw, hop, hgv, hm, hown⟩ := hr.out
  have HBW := zh hbw
  have HOP := zh hop
  have HGV := zh hgv
  have HM := zh hm
  have HOWN := zh hown
  have hcm := hown.2.2.1
  have hcx := hown.2.2.2.1
  unfold maxLen at hcx
  by_cases hlt : k < d.held.length
  ·have tk : decide ((k : Int) < d.held.length) = true := decide_eq_true (by omega)
   obtain ⟨ad, hao⟩ : ∃ ad, ao = some ad := by
    cases ao with
    | none => have := (HN.out rfl).1; omega
    | some ad => exact ⟨ad, rfl⟩
   obtain ⟨g, hg, ho⟩ := HSM.out ad hao
   subst hg
   subst hao
   have hx : d.held[k]? = some d.held[k] := List.getElem?_eq_getElem hlt
   have hcell : ∀ c, c < 4 → wr.cell? ⟨g, k * 4 + c, none⟩ = d.held[k].vals[c]? := fun c hc => by
    rw [hbw.cell (by rw [HOB.out]; exact ho.lt), ho.cell (k * 4 + c) (by omega), zaB d.held k c _ hx hc]
   have hglt : g < wr.heap.size := Nat.lt_of_lt_of_le ho.lt hbw.size
   generalize d.held[k] = x at *
   obtain ⟨xa, xid, xat⟩ := x
   have c0 : wr.cell? ⟨g, k * 4, none⟩ = some (.bool xa.six) := hcell 0 (by decide)
   have c1 : wr.cell? ⟨g, k * 4 + 1, none⟩ = some (.int .u32 xa.n) := hcell 1 (by decide)
   have c2 : wr.cell? ⟨g, k * 4 + 2, none⟩ = some (.string xid) := hcell 2 (by decide)
   have c3 : wr.cell? ⟨g, k * 4 + 3, none⟩ = some (.string xat) := hcell 3 (by decide)
   have HX := zh hx
   have p1 : (0 : Int) ≤ (k : Int) := by omega
   have o1 := cell_of_row _ OB 1 _ _ _ hop
   have o2 := cell_of_row _ OB 2 _ _ _ hop
   have lO := (Array.getElem?_eq_some_iff.1 hop).1
   have hba : Below wr.heap.size wr (wr.alloc (.cells #[.bool xa.six, .int .u32 xa.n, .string xid, .string xat] 87)) := (Below.refl _ _).alloc (Nat.le_refl _) _
   have HBA := zh hba
   have HTK := zh (show d.held.take (k + 1) = d.held.take k ++ [⟨xa, xid, xat⟩] by
    obtain ⟨h1, h2⟩ := List.getElem?_eq_some_iff.1 hx
    rw [List.take_succ_eq_append_getElem h1, h2])
   clear hcell ho hx hba hop hgv hbw hown hr hm
   by_cases hw : whoB xid xat id at_ = true
   ·have hw2 := hw
    unfold whoB at hw2
    rw [Bool.and_eq_true] at hw2
    obtain ⟨b1, b2⟩ := hw2
    have HFL := zh (show ((d.held.take (k + 1)).filter fun e => !whoB e.id e.at_ id at_) = (d.held.take k).filter fun e => !whoB e.id e.at_ id at_ by
     rw [HTK.out, List.filter_append, List.filter_cons_of_neg (by simp only [hw]; decide), List.filter_nil, List.append_nil])
    clear hw
    go_wp2_with fail
    go_roundw
    case rel => exact ⟨k + 1, m, gr, cr, by simp, by omega, by omega, rfl, zh ⟨HBW.out.alloc (by rw [HOB.out]; exact HBW.out.size) _, row_on HBA.out HOP.out, row_on HBA.out HGV.out, by rw [HFL.out]; exact HM.out, by rw [HFL.out]; exact HOWN.out.on HBA.out⟩⟩
    case measure => simp [intOf]; omega
   ·have hw' : whoB xid xat id at_ = false := Bool.eq_false_iff.2 hw
    have HFL := zh (show ((d.held.take (k + 1)).filter fun e => !whoB e.id e.at_ id at_) = ((d.held.take k).filter fun e => !whoB e.id e.at_ id at_) ++ [⟨xa, xid, xat⟩] by
     rw [HTK.out, List.filter_append, List.filter_cons_of_pos (by simp only [hw']; decide), List.filter_nil])
    clear hw
    unfold whoB at hw'
    cases b1 : (xid.toList == id.toList) with
    | false =>
     clear hw'
     have HNEW := zh (show ∀ (j : Nat) (u : Value), ((⟨xa, xid, xat⟩ : Ent).vals)[j]? = some u → ((wr.alloc (.cells #[.bool xa.six, .int .u32 xa.n, .string xid, .string xat] 87)).alloc (.cells #[.bool xa.six, .int .u32 xa.n, .string xid, .string xat] 87)).cell? ((⟨wr.heap.size + 1, 0, none⟩ : Addr).add j) = some u from fun j u hu => by
      have hn := heap_alloc_new (wr.alloc (.cells #[.bool xa.six, .int .u32 xa.n, .string xid, .string xat] 87)) (.cells #[.bool xa.six, .int .u32 xa.n, .string xid, .string xat] 87)
      rw [World.size_alloc] at hn
      rw [Addr.add_lit, Nat.zero_add, cell_of_row _ _ j _ _ _ hn, ← hu, List.getElem?_toArray]
      rfl)
     have HBB := zh (below_tr HBA.out ((Below.refl _ _).alloc (Nat.le_refl _) (.cells #[.bool xa.six, .int .u32 xa.n, .string xid, .string xat] 87)))
     have HBV := zh (show Below OB w ((wr.alloc (.cells #[.bool xa.six, .int .u32 xa.n, .string xid, .string xat] 87)).alloc (.cells #[.bool xa.six, .int .u32 xa.n, .string xid, .string xat] 87)) from by
      have h1 := HBW.out
      rw [HOB.out] at h1 ⊢
      exact below_tr h1 HBB.out)
     have HOV := zh (HOWN.out.on HBB.out)
     have hOS : OB ≤ ((wr.alloc (.cells #[.bool xa.six, .int .u32 xa.n, .string xid, .string xat] 87)).alloc (.cells #[.bool xa.six, .int .u32 xa.n, .string xid, .string xat] 87)).heap.size := by simp; omega
     have HOS := zh hOS
     clear hOS
     go_wp2_with (focus (at_builtin; go_must (refine wpList_append_p _ rfl _ _ 79 rfl OB 87 i0 (.agg #[.bool false, .int .u32 0, .string ⟨#[]⟩, .string ⟨#[]⟩]) 4 40 isSh Tryz.underlying79 HI0.out HZ0.out HZ1.out HZ2.out (by rfl) (by decide) zfB gr m cr _ rfl HOV.out ⟨wr.heap.size + 1, 0, none⟩ 1 1 ((⟨xa, xid, xat⟩ : Ent).vals) rfl rfl HNEW.out (zfA _) (ziU _) (by unfold maxLen; omega) (by omega) HOS.out ?_)))
     intro gr2 cr2 w9 hown9 hg9 _
     have HN9 := zh (show Below OB w w9 ∧ w9.heap[OB]? = some (.cells #[.int .i64 1, .string id, .string at_, .string asked] 45 (0, 0)) ∧ w9.heap[OB + 1]? = some (.cells #[.string ⟨#[]⟩, .string ⟨#[]⟩, .bool false] 41 (0, 0)) ∧ m + 1 = ((d.held.take (k + 1)).filter fun e => !whoB e.id e.at_ id at_).length ∧ OwnP w9 OB 87 4 isSh gr2 (m + 1) cr2 (flatE ((d.held.take (k + 1)).filter fun e => !whoB e.id e.at_ id at_)) from by
      have h1 := row_on HBB.out HOP.out
      have h2 := row_on HBB.out HGV.out
      have h6 := HOV.out
      obtain ⟨_, _, _, _, cur, h5, _⟩ := h6
      refine ⟨HBV.out.grown hg9 HOS.out (fun q hq => by cases hq; exact HOV.out.2.1), (hg9.block OB (Array.getElem?_eq_some_iff.1 h1).1 (fun e => yJ h1 h5 (by decide) (Option.some.inj e))).trans h1, (hg9.block (OB + 1) (Array.getElem?_eq_some_iff.1 h2).1 (fun e => yJ h2 h5 (by decide) (Option.some.inj e))).trans h2, ?_, ?_⟩
      ·rw [HFL.out, List.length_append, ← HM.out]
       rfl
      ·rw [HFL.out, zaI]
       exact hown9)
     clear hown9 hg9
     go_wp2_with fail
     go_roundw
     case rel => exact ⟨k + 1, m + 1, gr2, cr2, by simp, by omega, by omega, rfl, HN9⟩
     case measure => simp [intOf]; omega
    | true =>
     have b2 : (xat.toList == at_.toList) = false := by rw [b1, Bool.true_and] at hw'; exact hw'
     clear hw'
     have HNEW := zh (show ∀ (j : Nat) (u : Value), ((⟨xa, xid, xat⟩ : Ent).vals)[j]? = some u → ((wr.alloc (.cells #[.bool xa.six, .int .u32 xa.n, .string xid, .string xat] 87)).alloc (.cells #[.bool xa.six, .int .u32 xa.n, .string xid, .string xat] 87)).cell? ((⟨wr.heap.size + 1, 0, none⟩ : Addr).add j) = some u from fun j u hu => by
      have hn := heap_alloc_new (wr.alloc (.cells #[.bool xa.six, .int .u32 xa.n, .string xid, .string xat] 87)) (.cells #[.bool xa.six, .int .u32 xa.n, .string xid, .string xat] 87)
      rw [World.size_alloc] at hn
      rw [Addr.add_lit, Nat.zero_add, cell_of_row _ _ j _ _ _ hn, ← hu, List.getElem?_toArray]
      rfl)
     have HBB := zh (below_tr HBA.out ((Below.refl _ _).alloc (Nat.le_refl _) (.cells #[.bool xa.six, .int .u32 xa.n, .string xid, .string xat] 87)))
     have HBV := zh (show Below OB w ((wr.alloc (.cells #[.bool xa.six, .int .u32 xa.n, .string xid, .string xat] 87)).alloc (.cells #[.bool xa.six, .int .u32 xa.n, .string xid, .string xat] 87)) from by
      have h1 := HBW.out
      rw [HOB.out] at h1 ⊢
      exact below_tr h1 HBB.out)
     have HOV := zh (HOWN.out.on HBB.out)
     have hOS : OB ≤ ((wr.alloc (.cells #[.bool xa.six, .int .u32 xa.n, .string xid, .string xat] 87)).alloc (.cells #[.bool xa.six, .int .u32 xa.n, .string xid, .string xat] 87)).heap.size := by simp; omega
     have HOS := zh hOS
     clear hOS
     go_wp2_with (focus (at_builtin; go_must (refine wpList_append_p _ rfl _ _ 79 rfl OB 87 i0 (.agg #[.bool false, .int .u32 0, .string ⟨#[]⟩, .string ⟨#[]⟩]) 4 40 isSh Tryz.underlying79 HI0.out HZ0.out HZ1.out HZ2.out (by rfl) (by decide) zfB gr m cr _ rfl HOV.out ⟨wr.heap.size + 1, 0, none⟩ 1 1 ((⟨xa, xid, xat⟩ : Ent).vals) rfl rfl HNEW.out (zfA _) (ziU _) (by unfold maxLen; omega) (by omega) HOS.out ?_)))
     intro gr2 cr2 w9 hown9 hg9 _
     have HN9 := zh (show Below OB w w9 ∧ w9.heap[OB]? = some (.cells #[.int .i64 1, .string id, .string at_, .string asked] 45 (0, 0)) ∧ w9.heap[OB + 1]? = some (.cells #[.string ⟨#[]⟩, .string ⟨#[]⟩, .bool false] 41 (0, 0)) ∧ m + 1 = ((d.held.take (k + 1)).filter fun e => !whoB e.id e.at_ id at_).length ∧ OwnP w9 OB 87 4 isSh gr2 (m + 1) cr2 (flatE ((d.held.take (k + 1)).filter fun e => !whoB e.id e.at_ id at_)) from by
      have h1 := row_on HBB.out HOP.out
      have h2 := row_on HBB.out HGV.out
      have h6 := HOV.out
      obtain ⟨_, _, _, _, cur, h5, _⟩ := h6
      refine ⟨HBV.out.grown hg9 HOS.out (fun q hq => by cases hq; exact HOV.out.2.1), (hg9.block OB (Array.getElem?_eq_some_iff.1 h1).1 (fun e => yJ h1 h5 (by decide) (Option.some.inj e))).trans h1, (hg9.block (OB + 1) (Array.getElem?_eq_some_iff.1 h2).1 (fun e => yJ h2 h5 (by decide) (Option.some.inj e))).trans h2, ?_, ?_⟩
      ·rw [HFL.out, List.length_append, ← HM.out]
       rfl
      ·rw [HFL.out, zaI]
       exact hown9)
     clear hown9 hg9
     go_wp2_with fail
     go_roundw
     case rel => exact ⟨k + 1, m + 1, gr2, cr2, by simp, by omega, by omega, rfl, HN9⟩
     case measure => simp [intOf]; omega
  ·obtain rfl : k = d.held.length := by omega
   have tk : decide ((d.held.length : Int) < d.held.length) = false := decide_eq_false (by omega)
   rw [List.take_length] at HM HOWN
   have hbw' := HBW.out
   rw [HOB.out] at hbw'
   have HBWW := zh hbw'
   have hDr := (hbw'.block D lT).trans HD.out
   have HDR := zh hDr
   have d1 := cell_of_row wr D 1 _ _ _ hDr
   have e1 := frozen_of_row wr D 1 _ _ hDr
   have hDO : D ≠ OB + 1 := by rw [HOB.out]; omega
   have hDO2 : OB + 1 ≠ D := Ne.symm hDO
   have r0 := cell_of_row _ (OB + 1) 0 _ _ _ hgv
   have r1 := cell_of_row _ (OB + 1) 1 _ _ _ hgv
   have r2 := cell_of_row _ (OB + 1) 2 _ _ _ hgv
   have z0 := frozen_of_row _ (OB + 1) 0 _ _ hgv
   have z1 := frozen_of_row _ (OB + 1) 1 _ _ hgv
   have z2 := frozen_of_row _ (OB + 1) 2 _ _ hgv
   clear hbw hbw' hDr hop hgv hm hown hr
   go_wp2_with fail
   have n1 : ∀ x : UInt8, wr.cell? ⟨D, 1, none⟩ ≠ some (u8v x) := fun x => by rw [d1]; simp [u8v]
   have f1 : Fr [81] base wr (wr.setCell ⟨D, 1, none⟩ (.slice (some ⟨gr, 0, none⟩) m cr)) := Fr.set HDR.out (by simp) HS.out.lo n1
   have s1 : (wr.setCell ⟨D, 1, none⟩ (.slice (some ⟨gr, 0, none⟩) m cr)).heap[D]? = some (.cells #[sv, .slice (some ⟨gr, 0, none⟩) m cr, .bool la.six, .int .u32 la.n, .bool d.last.isSome] 81 (0, 0)) := heap_setCell_same wr D 1 _ _ _ HDR.out
   obtain ⟨sv', hv', la', hD', hset', _, hl'⟩ := HS.out.rows
   have he : (#[sv', hv', .bool la'.six, .int .u32 la'.n, .bool d.last.isSome] : Array Value) = #[sv, .slice ao d.held.length cap, .bool la.six, .int .u32 la.n, .bool d.last.isSome] := by
    have := hD'.symm.trans HD.out
    simpa using this
   have hF1 : Fr tD base w (wr.setCell ⟨D, 1, none⟩ (.slice (some ⟨gr, 0, none⟩) m cr)) := (Fr.of_below HBWW.out).trans (f1.mono (fun t ht => by simp at ht; simp [tD, ht]))
   have HBZ : GetB (wr.setCell ⟨D, 1, none⟩ (.slice (some ⟨gr, 0, none⟩) m cr)) base D OB Rs ⟨d.held.filter fun e => !whoB e.id e.at_ id at_, d.last⟩ 1 id at_ asked w := by
    refine ⟨(Below.heap_setCell _ _ _ _ (by show OB ≠ D; rw [HOB.out]; omega)).trans HOP.out, (Below.heap_setCell _ _ _ _ hDO2).trans HGV.out, ⟨⟨sv, _, la, s1, ?_, .inr ⟨gr, cr, ?_, ?_⟩, ?_⟩, HS.out.lo⟩, hF1, Nat.le_of_eq HOB.out.symm, hB⟩
    ·simp at he
     rw [← he.1]
     exact zeG hset' hF1 (by decide)
    ·rw [HM.out]
    ·have h1 := (HOWN.out.low (by rw [HOB.out]; exact hB) : OwnP wr base 87 4 isSh gr m cr _).fr f1 (by decide)
     show OwnP _ base _ 4 isSh gr (d.held.filter fun e => !whoB e.id e.at_ id at_).length cr _
     rw [← HM.out]
     exact h1
    ·intro a ha
     have h1 := hl' a ha
     simp at he
     obtain ⟨_, _, h2, h3⟩ := he
     rw [← h1]
     exact (Ad.eq' h2 (by omega)).symm
   refine bodyPost_ret (v := .agg #[.string ⟨#[]⟩, .string ⟨#[]⟩, .bool true]) (by simp [results, Tryz.results36, go_sem, r0, r1, r2]) rfl ?_
   exact ⟨rfl, HBZ.fin _ _ _⟩
theorem zgT (es : List Ent) (x : Ent) (id at_ : ByteArray) : mineE (es ++ [x]) id at_ = mineE es id at_ ++ if whoB x.id x.at_ id at_ then [x.a] else [] := by
 unfold mineE
 rw [List.filter_append, List.map_append]
 cases h : whoB x.id x.at_ id at_ <;> simp [List.filter, h]
def mineT (es : List Ent) (id at_ : ByteArray) : List (List UInt8) := (mineE es id at_).map Ad.text
theorem zgU (es : List Ent) (x : Ent) (id at_ : ByteArray) : mineT (es ++ [x]) id at_ = mineT es id at_ ++ if whoB x.id x.at_ id at_ then [x.a.text] else [] := by
 unfold mineT
 rw [zgT, List.map_append]
 split <;> rfl
theorem zfQ (es : List Ent) (id at_ : ByteArray) : ∀ t ∈ mineT es id at_, t ≠ [] := by
 intro t ht
 obtain ⟨a, _, rfl⟩ := List.mem_map.1 ht
 exact zmG a
theorem zgV (base D : Nat) (Rs : List RIn) (d : Desk) (k0 : Int) (id at_ asked : ByteArray) (w : World) (h : SDesk w base D Rs d) (hB : base ≤ w.heap.size) (hn : d.held.length ≤ 1000) (hoks : ∀ e ∈ d.held, e.a.ok) (hk0 : (k0 == 0) = false) (hk1 : (k0 == 1) = false) :
  Calls Tryz.prog 36 #[.pointer (some ⟨D, 0, none⟩), .agg #[.int .i64 k0, .string id, .string at_, .string asked]] w (yF w base D Rs d ⟨Lib.join (mineT d.held id at_) [44], [], decide (0 < (mineE d.held id at_).length)⟩) := by
 have HB0 := zh (GetB.start h hB k0 id at_ asked)
 have HOKS := zh hoks
 obtain ⟨sv, hv, la, hD, hset, hrow, hl⟩ := h.rows
 obtain ⟨ao, cap, rfl, hc1, hc2, hnone, hsome⟩ := hrow.form
 have HN := zh hnone
 have HSM := zh hsome
 have HD := zh hD
 have HS := zh h
 have lT := h.lt
 unfold maxLen at hc2
 have HB1 := zh (show Below w.heap.size w ((w.alloc (.cells #[.int .i64 k0, .string id, .string at_, .string asked] 45)).alloc (.cells #[.string ⟨#[]⟩, .string ⟨#[]⟩, .bool false] 41)) from ((Below.refl _ _).alloc (Nat.le_refl _) _).alloc (by simp) _)
 have cT : w.cell? ⟨D, 1, none⟩ = some (.slice ao d.held.length cap) := cell_of_row w D 1 _ _ _ hD
 have lT1 : D < w.heap.size + 1 := by omega
 have lT2 : D < w.heap.size + 1 + 1 := by omega
 clear h hD hset hrow hl hnone hsome hoks
 go_enter Tryz.func36, Tryz.ntmps36
 go_wp2_with fail
 clear cT lT1 lT2
 obtain ⟨OB, hOB⟩ : ∃ OB, OB = w.heap.size := ⟨_, rfl⟩
 rw [← hOB] at HB0 ⊢
 have HOB := zh hOB
 clear hOB
 generalize (w.alloc (.cells #[.int .i64 k0, .string id, .string at_, .string asked] 45)).alloc (.cells #[.string ⟨#[]⟩, .string ⟨#[]⟩, .bool false] 41) = w1 at HB0 HB1 ⊢
 go_loopw [8, 57] (fun v i wr => ∃ (k : Nat) (s : ByteArray), i = .int .i64 k ∧ k ≤ d.held.length ∧ v = .string s ∧ s.size ≤ k * 16 ∧ Hid (GetB wr base D OB Rs d k0 id at_ asked w ∧ Below w.heap.size w wr ∧ bl s = Lib.join (mineT (d.held.take k) id at_) [44])) (fun _ i _ => d.held.length - (intOf i).toNat)
 case atStart => exact ⟨0, ⟨#[]⟩, rfl, by omega, rfl, by decide, zh ⟨HB0.out, HB1.out, rfl⟩⟩
 case round =>
  obtain ⟨k, s, rfl, hk, rfl, hsz, hr⟩ := hrel
  have HB := zh hr.out.1
  have HBW := zh hr.out.2.1
  have HSB := zh hr.out.2.2
  by_cases hlt : k < d.held.length
  ·have tk : decide ((k : Int) < d.held.length) = true := decide_eq_true (by omega)
   obtain ⟨ad, hao⟩ : ∃ ad, ao = some ad := by
    cases ao with
    | none => have := (HN.out rfl).1; omega
    | some ad => exact ⟨ad, rfl⟩
   obtain ⟨g, hg, ho⟩ := HSM.out ad hao
   subst hg
   subst hao
   have hx : d.held[k]? = some d.held[k] := List.getElem?_eq_getElem hlt
   have hxo := HOKS.out _ (List.getElem_mem hlt)
   have hcell : ∀ c, c < 4 → wr.cell? ⟨g, k * 4 + c, none⟩ = d.held[k].vals[c]? := fun c hc => by
    rw [hr.out.2.1.cell ho.lt, ho.cell (k * 4 + c) (by omega), zaB d.held k c _ hx hc]
   have hglt : g < wr.heap.size := Nat.lt_of_lt_of_le ho.lt hr.out.2.1.size
   generalize d.held[k] = x at *
   obtain ⟨xa, xid, xat⟩ := x
   have hxo : xa.ok := hxo
   have c0 : wr.cell? ⟨g, k * 4, none⟩ = some (.bool xa.six) := hcell 0 (by decide)
   have c1 : wr.cell? ⟨g, k * 4 + 1, none⟩ = some (.int .u32 xa.n) := hcell 1 (by decide)
   have c2 : wr.cell? ⟨g, k * 4 + 2, none⟩ = some (.string xid) := hcell 2 (by decide)
   have c3 : wr.cell? ⟨g, k * 4 + 3, none⟩ = some (.string xat) := hcell 3 (by decide)
   have HX := zh hx
   have p1 : (0 : Int) ≤ (k : Int) := by omega
   have hop := HB.out.op
   have o1 := cell_of_row _ OB 1 _ _ _ hop
   have o2 := cell_of_row _ OB 2 _ _ _ hop
   have lO := (Array.getElem?_eq_some_iff.1 hop).1
   have hba : Below wr.heap.size wr (wr.alloc (.cells #[.bool xa.six, .int .u32 xa.n, .string xid, .string xat] 87)) := (Below.refl _ _).alloc (Nat.le_refl _) _
   have HBA := zh hba
   have HTK := zh (show mineT (d.held.take (k + 1)) id at_ = mineT (d.held.take k) id at_ ++ if whoB xid xat id at_ then [xa.text] else [] by
    obtain ⟨h1, h2⟩ := List.getElem?_eq_some_iff.1 hx
    rw [List.take_succ_eq_append_getElem h1, h2, zgU])
   have HT := zh (fun (W : World) => (text_any xa W (by unfold Ad.ok at hxo; split at hxo <;> omega)).mono (fun e w' h => zX h))
   have hz1 := zY hxo
   obtain ⟨tx, htx⟩ : ∃ tx : ByteArray, tx = ⟨xa.text.toArray⟩ := ⟨_, rfl⟩
   have l1 : tx.size ≤ 15 := by rw [htx]; show xa.text.toArray.size ≤ 15; simpa using hz1
   have HTX := zh (show bl tx = xa.text by rw [htx]; simp [bl])
   rw [← htx] at HT
   unfold adv at HT
   clear hcell ho hx hba hop hr hxo hz1 htx
   cases b1 : (xid.toList == id.toList) with
   | false =>
    have HW := zh (show whoB xid xat id at_ = false by unfold whoB; rw [b1]; rfl)
    go_wp2_with fail
    go_roundw
    case rel => exact ⟨k + 1, s, by simp, by omega, rfl, by omega, zh ⟨HB.out.on HBA.out, below_tr HBW.out HBA.out, by rw [HTK.out, HW.out, if_neg (by decide), List.append_nil]; exact HSB.out⟩⟩
    case measure => simp [intOf]; omega
   | true =>
    cases b2 : (xat.toList == at_.toList) with
    | false =>
     have HW := zh (show whoB xid xat id at_ = false by unfold whoB; rw [b2, Bool.and_false])
     go_wp2_with fail
     go_roundw
     case rel => exact ⟨k + 1, s, by simp, by omega, rfl, by omega, zh ⟨HB.out.on HBA.out, below_tr HBW.out HBA.out, by rw [HTK.out, HW.out, if_neg (by decide), List.append_nil]; exact HSB.out⟩⟩
     case measure => simp [intOf]; omega
    | true =>
     have HW := zh (show whoB xid xat id at_ = true by unfold whoB; rw [b1, b2]; rfl)
     cases b3 : s.toList.isEmpty with
     | true =>
      have hs0 := xJ b3
      have hemp : mineT (d.held.take k) id at_ = [] := (zjC (zfQ _ _ _)).1 (by rw [← HSB.out, hs0]; rfl)
      have HSN := zh (show bl (s ++ tx) = Lib.join (mineT (d.held.take (k + 1)) id at_) [44] by
       rw [HTK.out, HW.out, if_pos rfl, zeH, if_pos hemp, bl_add, hs0, HTX.out]
       rfl)
      have n1 : ¬ 9223372036854775807 < s.size + tx.size := by omega
      have n2 : (s ++ tx).size ≤ (k + 1) * 16 := by rw [ByteArray.size_append]; omega
      clear hs0 hemp
      go_wp2_with fail
      refine (HT.out _).mono ?_
      rintro e w4 ⟨rfl, hb4⟩
      have HB4 := zh (below_tr HBA.out hb4)
      clear hb4 c0 c1 c2 c3 o1 o2 HT
      go_wp2_with fail
      go_roundw
      case rel => exact ⟨k + 1, s ++ tx, by simp, by omega, rfl, n2, zh ⟨HB.out.on HB4.out, below_tr HBW.out HB4.out, HSN.out⟩⟩
      case measure => simp [intOf]; omega
     | false =>
      have hemp : mineT (d.held.take k) id at_ ≠ [] := fun e => by
       have h1 := HSB.out
       rw [e, Lib.join_nil] at h1
       rw [Lib.toList_data] at b3
       have h2 : s.data.toList = [] := h1
       rw [h2] at b3
       cases b3
      have HSN := zh (show bl (s ++ ⟨#[44]⟩ ++ tx) = Lib.join (mineT (d.held.take (k + 1)) id at_) [44] by
       rw [HTK.out, HW.out, if_pos rfl, zeH, if_neg hemp, bl_add, bl_add, HTX.out, HSB.out]
       rfl)
      have n0 : ¬ 9223372036854775807 < s.size + 1 := by omega
      have n1 : ¬ 9223372036854775807 < s.size + 1 + tx.size := by omega
      have n2 : (s ++ ⟨#[44]⟩ ++ tx).size ≤ (k + 1) * 16 := by rw [ByteArray.size_append, ByteArray.size_append]; show s.size + 1 + tx.size ≤ _; omega
      clear hemp
      go_wp2_with fail
      refine (HT.out _).mono ?_
      rintro e w4 ⟨rfl, hb4⟩
      have HB4 := zh (below_tr HBA.out hb4)
      clear hb4 c0 c1 c2 c3 o1 o2 HT
      go_wp2_with fail
      go_roundw
      case rel => exact ⟨k + 1, s ++ ⟨#[44]⟩ ++ tx, by simp, by omega, rfl, n2, zh ⟨HB.out.on HB4.out, below_tr HBW.out HB4.out, HSN.out⟩⟩
      case measure => simp [intOf]; omega
  ·obtain rfl : k = d.held.length := by omega
   have tk : decide ((d.held.length : Int) < d.held.length) = false := decide_eq_false (by omega)
   rw [List.take_length] at HSB
   have hsE : s = ⟨(Lib.join (mineT d.held id at_) [44]).toArray⟩ := bs_of HSB.out
   have hOK : (!s.toList.isEmpty) = decide (0 < (mineE d.held id at_).length) := by
    have hl : (mineT d.held id at_).length = (mineE d.held id at_).length := by unfold mineT; rw [List.length_map]
    rw [← hl, Lib.toList_data]
    have h1 := HSB.out
    cases hm : mineT d.held id at_ with
    | nil =>
     rw [hm, Lib.join_nil] at h1
     have h2 : s.data.toList = [] := h1
     rw [h2]
     rfl
    | cons t r =>
     have h2 : s.data.toList ≠ [] := fun e => by
      have h3 : bl s = [] := e
      rw [h1] at h3
      have := (zjC (zfQ _ _ _)).1 h3
      rw [hm] at this
      cases this
     rw [show s.data.toList.isEmpty = false by cases h : s.data.toList with | nil => exact absurd h h2 | cons _ _ => rfl]
     simp
   have HSE := zh hsE
   have HOKK := zh hOK
   clear hsE hOK hr
   have hgv := HB.out.gv
   have r0 := cell_of_row _ (OB + 1) 0 _ _ _ hgv
   have r1 := cell_of_row _ (OB + 1) 1 _ _ _ hgv
   have r2 := cell_of_row _ (OB + 1) 2 _ _ _ hgv
   have z0 := frozen_of_row _ (OB + 1) 0 _ _ hgv
   have z1 := frozen_of_row _ (OB + 1) 1 _ _ hgv
   have z2 := frozen_of_row _ (OB + 1) 2 _ _ hgv
   clear hgv
   cases b3 : s.toList.isEmpty with
   | true =>
    go_wp2_with fail
    refine bodyPost_ret (v := .agg #[.string s, .string ⟨#[]⟩, .bool false]) (by simp [results, Tryz.results36, go_sem, r0, r1, r2]) rfl ?_
    rw [b3] at HOKK
    unfold yF Giv.val
    simp only
    rw [← HOKK.out, ← HSE.out]
    exact ⟨rfl, HB.out.fin _ _ _⟩
   | false =>
    go_wp2_with fail
    refine bodyPost_ret (v := .agg #[.string s, .string ⟨#[]⟩, .bool true]) (by simp [results, Tryz.results36, go_sem, r0, r1, r2]) rfl ?_
    rw [b3] at HOKK
    unfold yF Giv.val
    simp only
    rw [← HOKK.out, ← HSE.out]
    exact ⟨rfl, HB.out.fin _ _ _⟩
end Go.Proofs.YtnehofekgnbelaaGreatDoor

/-
  Texts put together: SpOf.
-/
import Derived.Test.YtnehofekgnbelaaGreatDoorY27
import Derived.Test.YtnehofekgnbelaaGreatDoorY26
import Derived.Test.YtnehofekgnbelaaGreatDoorY28
import Derived.Test.YtnehofekgnbelaaGreatDoorY2
import Derived.Deep.RegionHeld3
import Derived.Deep.DeepCutAuto
namespace Go.Proofs.YtnehofekgnbelaaGreatDoor
open Go.RowKit
set_option linter.unusedVariables false
set_option linter.unusedSimpArgs false
set_option maxRecDepth 100000
set_option maxHeartbeats 4000000
def zjR (w : World) (R : RIn) (e : Ending) (w' : World) : Prop :=
 ∃ (net : Ad) (free : Int) (st en gw : Ad), e = .returned (.tuple #[spanv net free st en gw, .bool (okR R)]) ∧ (okR R = true → net = R.a ∧ free = R.free ∧ st = zB R ∧ en = zC R ∧ gw = zE R) ∧ Below w.heap.size w w'
structure SpR (w : World) (N : Nat) (s0 s1 s2 s3 : ByteArray) (six : Bool) (m : Nat) (free : Nat) (st en gw : Ad) (wr : World) : Prop where
 lt : w.heap.size + 1 < N
 box : wr.heap[w.heap.size]? = some (.cells #[.string s0, .string s1, .string s2, .string s3] 23 (0, 0))
 res : wr.heap[w.heap.size + 1]? = some (.cells #[.bool false, .int .u32 0, .int .i64 0, .bool false, .int .u32 0, .bool false, .int .u32 0, .bool false, .int .u32 0] 63 (0, 0))
 ad : wr.heap[N]? = some (.cells #[.bool six, .int .u32 m] 56 (0, 0))
 sp : wr.heap[N + 1]? = some (.cells #[.bool six, .int .u32 m, .int .i64 free, .bool st.six, .int .u32 st.n, .bool en.six, .int .u32 en.n, .bool gw.six, .int .u32 gw.n] 63 (0, 0))
 below : Below w.heap.size w wr
section
variable {w : World} {N : Nat} {s0 s1 s2 s3 : ByteArray} {six : Bool} {m free : Nat} {st en gw : Ad} {wr w2 : World}
theorem SpR.on (h : SpR w N s0 s1 s2 s3 six m free st en gw wr) (hb : Below wr.heap.size wr w2) : SpR w N s0 s1 s2 s3 six m free st en gw w2 :=
 ⟨h.lt, row_on hb h.box, row_on hb h.res, row_on hb h.ad, row_on hb h.sp, below_tr h.below hb⟩
theorem SpR.size (h : SpR w N s0 s1 s2 s3 six m free st en gw wr) : N + 1 < wr.heap.size := (Array.getElem?_eq_some_iff.1 h.sp).1
theorem SpR.set (h : SpR w N s0 s1 s2 s3 six m free st en gw wr) (j : Nat) (v : Value) :
  (wr.setCell ⟨N + 1, j, none⟩ v).heap[w.heap.size]? = wr.heap[w.heap.size]? ∧ (wr.setCell ⟨N + 1, j, none⟩ v).heap[w.heap.size + 1]? = wr.heap[w.heap.size + 1]? ∧ (wr.setCell ⟨N + 1, j, none⟩ v).heap[N]? = wr.heap[N]? ∧
  Below w.heap.size w (wr.setCell ⟨N + 1, j, none⟩ v) := by
 have := h.lt
 exact ⟨Below.heap_setCell _ _ _ _ (by show w.heap.size ≠ N + 1; omega), Below.heap_setCell _ _ _ _ (by show w.heap.size + 1 ≠ N + 1; omega), Below.heap_setCell _ _ _ _ (by show N ≠ N + 1; omega), h.below.setCell (by show w.heap.size ≤ N + 1; omega) _⟩
theorem SpR.toSt (h : SpR w N s0 s1 s2 s3 six m free st en gw wr) (x : Bool) (n : Nat) (v : Int) (hv : v = n) : SpR w N s0 s1 s2 s3 six m free ⟨x, n⟩ en gw ((wr.setCell ⟨N + 1, 3, none⟩ (.bool x)).setCell ⟨N + 1, 4, none⟩ (.int .u32 v)) := by
 subst hv
 have hlt := h.lt
 have a1 : (wr.setCell ⟨N + 1, 3, none⟩ (.bool x)).heap[N + 1]? = some (.cells (#[.bool six, .int .u32 m, .int .i64 free, .bool st.six, .int .u32 st.n, .bool en.six, .int .u32 en.n, .bool gw.six, .int .u32 gw.n].setIfInBounds 3 (.bool x)) 63 (0, 0)) := heap_setCell_same wr (N + 1) 3 _ _ _ h.sp
 have a2 := heap_setCell_same (wr.setCell ⟨N + 1, 3, none⟩ (.bool x)) (N + 1) 4 _ _ (.int .u32 n) a1
 obtain ⟨b1, b2, b3, b4⟩ := h.set 3 (.bool x)
 exact ⟨hlt, (Below.heap_setCell _ _ _ _ (by show w.heap.size ≠ N + 1; omega)).trans (b1.trans h.box), (Below.heap_setCell _ _ _ _ (by show w.heap.size + 1 ≠ N + 1; omega)).trans (b2.trans h.res), (Below.heap_setCell _ _ _ _ (by show N ≠ N + 1; omega)).trans (b3.trans h.ad), a2, b4.setCell (by show w.heap.size ≤ N + 1; omega) _⟩
theorem SpR.toEn (h : SpR w N s0 s1 s2 s3 six m free st en gw wr) (x : Bool) (n : Nat) (v : Int) (hv : v = n) : SpR w N s0 s1 s2 s3 six m free st ⟨x, n⟩ gw ((wr.setCell ⟨N + 1, 5, none⟩ (.bool x)).setCell ⟨N + 1, 6, none⟩ (.int .u32 v)) := by
 subst hv
 have hlt := h.lt
 have a1 : (wr.setCell ⟨N + 1, 5, none⟩ (.bool x)).heap[N + 1]? = some (.cells (#[.bool six, .int .u32 m, .int .i64 free, .bool st.six, .int .u32 st.n, .bool en.six, .int .u32 en.n, .bool gw.six, .int .u32 gw.n].setIfInBounds 5 (.bool x)) 63 (0, 0)) := heap_setCell_same wr (N + 1) 5 _ _ _ h.sp
 have a2 := heap_setCell_same (wr.setCell ⟨N + 1, 5, none⟩ (.bool x)) (N + 1) 6 _ _ (.int .u32 n) a1
 obtain ⟨b1, b2, b3, b4⟩ := h.set 5 (.bool x)
 exact ⟨hlt, (Below.heap_setCell _ _ _ _ (by show w.heap.size ≠ N + 1; omega)).trans (b1.trans h.box), (Below.heap_setCell _ _ _ _ (by show w.heap.size + 1 ≠ N + 1; omega)).trans (b2.trans h.res), (Below.heap_setCell _ _ _ _ (by show N ≠ N + 1; omega)).trans (b3.trans h.ad), a2, b4.setCell (by show w.heap.size ≤ N + 1; omega) _⟩
theorem SpR.toGw (h : SpR w N s0 s1 s2 s3 six m free st en gw wr) (x : Bool) (n : Nat) (v : Int) (hv : v = n) : SpR w N s0 s1 s2 s3 six m free st en ⟨x, n⟩ ((wr.setCell ⟨N + 1, 7, none⟩ (.bool x)).setCell ⟨N + 1, 8, none⟩ (.int .u32 v)) := by
 subst hv
 have hlt := h.lt
 have a1 : (wr.setCell ⟨N + 1, 7, none⟩ (.bool x)).heap[N + 1]? = some (.cells (#[.bool six, .int .u32 m, .int .i64 free, .bool st.six, .int .u32 st.n, .bool en.six, .int .u32 en.n, .bool gw.six, .int .u32 gw.n].setIfInBounds 7 (.bool x)) 63 (0, 0)) := heap_setCell_same wr (N + 1) 7 _ _ _ h.sp
 have a2 := heap_setCell_same (wr.setCell ⟨N + 1, 7, none⟩ (.bool x)) (N + 1) 8 _ _ (.int .u32 n) a1
 obtain ⟨b1, b2, b3, b4⟩ := h.set 7 (.bool x)
 exact ⟨hlt, (Below.heap_setCell _ _ _ _ (by show w.heap.size ≠ N + 1; omega)).trans (b1.trans h.box), (Below.heap_setCell _ _ _ _ (by show w.heap.size + 1 ≠ N + 1; omega)).trans (b2.trans h.res), (Below.heap_setCell _ _ _ _ (by show N ≠ N + 1; omega)).trans (b3.trans h.ad), a2, b4.setCell (by show w.heap.size ≤ N + 1; omega) _⟩
theorem SpR.toEnN (h : SpR w N s0 s1 s2 s3 six m free st en gw wr) (n : Nat) (v : Int) (hv : v = n) : SpR w N s0 s1 s2 s3 six m free st ⟨en.six, n⟩ gw (wr.setCell ⟨N + 1, 6, none⟩ (.int .u32 v)) := by
 subst hv
 obtain ⟨b1, b2, b3, b4⟩ := h.set 6 (.int .u32 n)
 exact ⟨h.lt, b1.trans h.box, b2.trans h.res, b3.trans h.ad, heap_setCell_same wr (N + 1) 6 _ _ _ h.sp, b4⟩
theorem SpR.far (h : SpR w N s0 s1 s2 s3 six m free st en gw wr) (k : Nat) (hk : N + 1 < k) (j : Nat) (v : Value) : SpR w N s0 s1 s2 s3 six m free st en gw (wr.setCell ⟨k, j, none⟩ v) := by
 have := h.lt
 exact ⟨h.lt, (Below.heap_setCell _ _ _ _ (by show w.heap.size ≠ k; omega)).trans h.box, (Below.heap_setCell _ _ _ _ (by show w.heap.size + 1 ≠ k; omega)).trans h.res, (Below.heap_setCell _ _ _ _ (by show N ≠ k; omega)).trans h.ad, (Below.heap_setCell _ _ _ _ (by show N + 1 ≠ k; omega)).trans h.sp, h.below.setCell (by show w.heap.size ≤ k; omega) _⟩
theorem SpR.start {w1 : World} (hlt : w.heap.size + 1 < w1.heap.size) (hbox : w1.heap[w.heap.size]? = some (.cells #[.string s0, .string s1, .string s2, .string s3] 23 (0, 0)))
  (hres : w1.heap[w.heap.size + 1]? = some (.cells #[.bool false, .int .u32 0, .int .i64 0, .bool false, .int .u32 0, .bool false, .int .u32 0, .bool false, .int .u32 0] 63 (0, 0))) (hbw : Below w.heap.size w w1) (f : Int) (hf : f = free) :
  SpR w w1.heap.size s0 s1 s2 s3 six m free ⟨false, 0⟩ ⟨false, 0⟩ ⟨false, 0⟩ ((w1.alloc (.cells #[.bool six, .int .u32 m] 56)).alloc (.cells #[.bool six, .int .u32 m, .int .i64 f, .bool false, .int .u32 0, .bool false, .int .u32 0, .bool false, .int .u32 0] 63)) := by
 subst hf
 have hal : Below w1.heap.size w1 ((w1.alloc (.cells #[.bool six, .int .u32 m] 56)).alloc (.cells #[.bool six, .int .u32 m, .int .i64 free, .bool false, .int .u32 0, .bool false, .int .u32 0, .bool false, .int .u32 0] 63)) := ((Below.refl _ _).alloc (Nat.le_refl _) _).alloc (by simp) _
 exact ⟨hlt, row_on hal hbox, row_on hal hres, (heap_alloc_old _ _ (by simp)).trans (heap_alloc_new w1 _), heap_alloc2_new _ _ _, below_tr hbw hal⟩
end
theorem xV {w : World} {k : Nat} {T : TypeId} {a0 a1 a2 a3 a4 a5 a6 a7 a8 v0 v1 v2 v3 v4 v5 v6 v7 v8 : Value} (h : w.heap[k]? = some (.cells #[a0, a1, a2, a3, a4, a5, a6, a7, a8] T (0, 0))) :
  ((((((((((w.setCell ⟨k, 0, none⟩ v0).setCell ⟨k, 1, none⟩ v1).setCell ⟨k, 2, none⟩ v2).setCell ⟨k, 3, none⟩ v3).setCell ⟨k, 4, none⟩ v4).setCell ⟨k, 5, none⟩ v5).setCell ⟨k, 6, none⟩ v6).setCell ⟨k, 7, none⟩ v7).setCell ⟨k, 8, none⟩ v8)).heap[k]? = some (.cells #[v0, v1, v2, v3, v4, v5, v6, v7, v8] T (0, 0)) := by
 have h0 : ((w.setCell ⟨k, 0, none⟩ v0)).heap[k]? = some (.cells #[v0, a1, a2, a3, a4, a5, a6, a7, a8] T (0, 0)) := heap_setCell_same _ k 0 _ _ _ h
 have h1 : (((w.setCell ⟨k, 0, none⟩ v0).setCell ⟨k, 1, none⟩ v1)).heap[k]? = some (.cells #[v0, v1, a2, a3, a4, a5, a6, a7, a8] T (0, 0)) := heap_setCell_same _ k 1 _ _ _ h0
 have h2 : ((((w.setCell ⟨k, 0, none⟩ v0).setCell ⟨k, 1, none⟩ v1).setCell ⟨k, 2, none⟩ v2)).heap[k]? = some (.cells #[v0, v1, v2, a3, a4, a5, a6, a7, a8] T (0, 0)) := heap_setCell_same _ k 2 _ _ _ h1
 have h3 : (((((w.setCell ⟨k, 0, none⟩ v0).setCell ⟨k, 1, none⟩ v1).setCell ⟨k, 2, none⟩ v2).setCell ⟨k, 3, none⟩ v3)).heap[k]? = some (.cells #[v0, v1, v2, v3, a4, a5, a6, a7, a8] T (0, 0)) := heap_setCell_same _ k 3 _ _ _ h2
 have h4 : ((((((w.setCell ⟨k, 0, none⟩ v0).setCell ⟨k, 1, none⟩ v1).setCell ⟨k, 2, none⟩ v2).setCell ⟨k, 3, none⟩ v3).setCell ⟨k, 4, none⟩ v4)).heap[k]? = some (.cells #[v0, v1, v2, v3, v4, a5, a6, a7, a8] T (0, 0)) := heap_setCell_same _ k 4 _ _ _ h3
 have h5 : (((((((w.setCell ⟨k, 0, none⟩ v0).setCell ⟨k, 1, none⟩ v1).setCell ⟨k, 2, none⟩ v2).setCell ⟨k, 3, none⟩ v3).setCell ⟨k, 4, none⟩ v4).setCell ⟨k, 5, none⟩ v5)).heap[k]? = some (.cells #[v0, v1, v2, v3, v4, v5, a6, a7, a8] T (0, 0)) := heap_setCell_same _ k 5 _ _ _ h4
 have h6 : ((((((((w.setCell ⟨k, 0, none⟩ v0).setCell ⟨k, 1, none⟩ v1).setCell ⟨k, 2, none⟩ v2).setCell ⟨k, 3, none⟩ v3).setCell ⟨k, 4, none⟩ v4).setCell ⟨k, 5, none⟩ v5).setCell ⟨k, 6, none⟩ v6)).heap[k]? = some (.cells #[v0, v1, v2, v3, v4, v5, v6, a7, a8] T (0, 0)) := heap_setCell_same _ k 6 _ _ _ h5
 have h7 : (((((((((w.setCell ⟨k, 0, none⟩ v0).setCell ⟨k, 1, none⟩ v1).setCell ⟨k, 2, none⟩ v2).setCell ⟨k, 3, none⟩ v3).setCell ⟨k, 4, none⟩ v4).setCell ⟨k, 5, none⟩ v5).setCell ⟨k, 6, none⟩ v6).setCell ⟨k, 7, none⟩ v7)).heap[k]? = some (.cells #[v0, v1, v2, v3, v4, v5, v6, v7, a8] T (0, 0)) := heap_setCell_same _ k 7 _ _ _ h6
 have h8 : ((((((((((w.setCell ⟨k, 0, none⟩ v0).setCell ⟨k, 1, none⟩ v1).setCell ⟨k, 2, none⟩ v2).setCell ⟨k, 3, none⟩ v3).setCell ⟨k, 4, none⟩ v4).setCell ⟨k, 5, none⟩ v5).setCell ⟨k, 6, none⟩ v6).setCell ⟨k, 7, none⟩ v7).setCell ⟨k, 8, none⟩ v8)).heap[k]? = some (.cells #[v0, v1, v2, v3, v4, v5, v6, v7, v8] T (0, 0)) := heap_setCell_same _ k 8 _ _ _ h7
 exact h8
theorem zhL {w w1 : World} {o1 o2 : Obj} {n : Nat} (hb : Below (((w.alloc o1).alloc o2).drewN n).heap.size (((w.alloc o1).alloc o2).drewN n) w1) :
  w1.heap[w.heap.size]? = some o1 ∧ w1.heap[w.heap.size + 1]? = some o2 ∧ Below w.heap.size w w1 ∧ w.heap.size + 1 < w1.heap.size := by
 have hb' : Below ((w.alloc o1).alloc o2).heap.size ((w.alloc o1).alloc o2) w1 := below_tr (below_drewN (Below.refl _ _) n) hb
 obtain ⟨h1, h2, h3⟩ := two_kept' hb'
 exact ⟨h1, h2, h3, by have := hb'.size; simp at this; omega⟩
theorem zfX (s0 s1 s2 s3 : ByteArray) (R : RIn) (w : World) (h : RTexts s0 s1 s2 s3 R) (hk : ROk R) (hg : yP R) (hnum : numOK 128 (cutL 47 (bl s0)).2.1 = true) :
  Calls Tryz.prog 26 #[.agg #[.string s0, .string s1, .string s2, .string s3]] w (zjR w R) := by
 have H := zh h
 have HK := zh hk
 have HG := zh hg
 have HNUM := zh hnum
 have z0 := h.short
 have z1 := h.t1.short
 have z2 := h.t2.short
 have z3 := h.t3.short
 clear h hk hg hnum
 go_enter Tryz.func26, Tryz.ntmps26
 go_wp2_with fail
 refine (cut_stroke s0 _ (by omega)).mono ?_
 rintro e w1 ⟨p, q, rfl, hp, hq, n, rfl⟩
 have hps : p.size ≤ 64 := by have := cutL_size 47 (bl s0); rw [← hp, bl_length, bl_length] at this; omega
 have hqs : q.size ≤ 64 := by have := cutL_size 47 (bl s0); rw [← hq, bl_length, bl_length] at this; omega
 have HP := zh hp
 have HQ := zh hq
 clear hp hq
 go_wp2_with fail
 refine (read_any p _ (by omega)).mono ?_
 rintro e w1 ⟨a, ok, rfl, ha, hn, hb1⟩
 have ha2 : ok = true ∧ a = R.a := by
  have h := H.out.net.ad
  rw [← HP.out] at h
  cases ok with
  | true => rw [if_pos rfl] at ha; rw [h] at ha; exact ⟨rfl, (Option.some.inj ha).symm⟩
  | false => rw [if_neg (by decide)] at ha; rw [h] at ha; cases ha
 obtain ⟨rfl, rfl⟩ := ha2
 have HB1 := zh hb1
 clear ha hb1
 unfold adv
 go_wp2_with fail
 refine (number_any q 128 _ (by omega) (by omega) (by omega)).mono ?_
 rintro e w2 ⟨rfl, rfl⟩
 have hv : numV 128 (bl q) = ((8 * R.a.width - R.free : Nat) : Int) := by
  unfold numV
  rw [HQ.out, if_pos HNUM.out]
  exact H.out.net.val
 rw [hv, show numOK 128 (bl q) = true by rw [HQ.out]; exact HNUM.out]
 clear hv
 have hroom := HK.out.room
 unfold Ad.room at hroom
 unfold Ad.width
 have hbz := zhL HB1.out
 have HBOX := zh hbz.1
 have HRES := zh hbz.2.1
 have HBW := zh hbz.2.2.1
 have hlt : w.heap.size + 1 < w1.heap.size := hbz.2.2.2
 clear hbz
 obtain ⟨F, hF⟩ : ∃ F : Nat, F = R.free := ⟨_, rfl⟩
 obtain ⟨m, hm⟩ : ∃ m : Nat, m = R.a.n := ⟨_, rfl⟩
 obtain ⟨b, hb⟩ : ∃ b : Bool, b = R.a.six := ⟨_, rfl⟩
 obtain ⟨V, hV⟩ : ∃ V : Nat, V = 8 * (if b = true then 16 else 4) - F := ⟨_, rfl⟩
 rw [← hF, ← hm, ← hb, ← hV]
 rw [← hF, ← hb] at hroom
 rw [← hm] at hn
 have hVV : V ≤ 128 ∧ (b = true → V + F = 128) ∧ (b = false → V + F = 32) := by
  rw [hV]
  cases b <;> simp at hroom ⊢ <;> omega
 have hFF : F ≤ 32 := by split at hroom <;> omega
 have hV1 : V ≤ 128 := hVV.1
 have HVT := zh hVV.2.1
 have HVF := zh hVV.2.2
 have HFM := zh (And.intro hF hm)
 have HBS := zh hb
 have HROOM := zh hroom
 clear hF hm hb hV hVV hroom
 go_upto_if 35 with fail
 go_cut [] (fun wx => SpR w w1.heap.size s0 s1 s2 s3 b m F ⟨false, 0⟩ ⟨false, 0⟩ ⟨false, 0⟩ wx)
 case first =>
  cases b with
  | true =>
   have hvt := HVT.out rfl
   go_wp2_with fail
   go_meet
   exact SpR.start hlt HBOX.out HRES.out HBW.out _ (by omega)
  | false =>
   have hvf := HVF.out rfl
   go_wp2_with fail
   go_meet
   exact SpR.start hlt HBOX.out HRES.out HBW.out _ (by omega)
 case rest =>
  have HS := zh hcut
  clear hcut hlt HBOX HRES HBW HVT HVF hV1 HB1
  have d0 : wc.cell? ⟨w1.heap.size, 0, none⟩ = some (.bool b) := cell_of_row wc _ 0 _ _ _ HS.out.ad
  have d1 : wc.cell? ⟨w1.heap.size, 1, none⟩ = some (.int .u32 m) := cell_of_row wc _ 1 _ _ _ HS.out.ad
  have g0 : wc.cell? ⟨w1.heap.size + 1, 0, none⟩ = some (.bool b) := cell_of_row wc _ 0 _ _ _ HS.out.sp
  have g1 : wc.cell? ⟨w1.heap.size + 1, 1, none⟩ = some (.int .u32 m) := cell_of_row wc _ 1 _ _ _ HS.out.sp
  have g2 : wc.cell? ⟨w1.heap.size + 1, 2, none⟩ = some (.int .i64 F) := cell_of_row wc _ 2 _ _ _ HS.out.sp
  have g3 : wc.cell? ⟨w1.heap.size + 1, 3, none⟩ = some (.bool false) := cell_of_row wc _ 3 _ _ _ HS.out.sp
  have g4 : wc.cell? ⟨w1.heap.size + 1, 4, none⟩ = some (.int .u32 0) := cell_of_row wc _ 4 _ _ _ HS.out.sp
  have g5 : wc.cell? ⟨w1.heap.size + 1, 5, none⟩ = some (.bool false) := cell_of_row wc _ 5 _ _ _ HS.out.sp
  have g6 : wc.cell? ⟨w1.heap.size + 1, 6, none⟩ = some (.int .u32 0) := cell_of_row wc _ 6 _ _ _ HS.out.sp
  have g7 : wc.cell? ⟨w1.heap.size + 1, 7, none⟩ = some (.bool false) := cell_of_row wc _ 7 _ _ _ HS.out.sp
  have g8 : wc.cell? ⟨w1.heap.size + 1, 8, none⟩ = some (.int .u32 0) := cell_of_row wc _ 8 _ _ _ HS.out.sp
  have f3 : wc.frozen? ⟨w1.heap.size + 1, 3, none⟩ = false := frozen_of_row wc _ 3 _ _ HS.out.sp
  have f4 : wc.frozen? ⟨w1.heap.size + 1, 4, none⟩ = false := frozen_of_row wc _ 4 _ _ HS.out.sp
  have f5 : wc.frozen? ⟨w1.heap.size + 1, 5, none⟩ = false := frozen_of_row wc _ 5 _ _ HS.out.sp
  have f6 : wc.frozen? ⟨w1.heap.size + 1, 6, none⟩ = false := frozen_of_row wc _ 6 _ _ HS.out.sp
  have f7 : wc.frozen? ⟨w1.heap.size + 1, 7, none⟩ = false := frozen_of_row wc _ 7 _ _ HS.out.sp
  have f8 : wc.frozen? ⟨w1.heap.size + 1, 8, none⟩ = false := frozen_of_row wc _ 8 _ _ HS.out.sp
  have gz : w1.heap.size + 1 < wc.heap.size := HS.out.size
  have r0 : wc.cell? ⟨w.heap.size + 1, 0, none⟩ = some (.bool false) := cell_of_row wc _ 0 _ _ _ HS.out.res
  have r1 : wc.cell? ⟨w.heap.size + 1, 1, none⟩ = some (.int .u32 0) := cell_of_row wc _ 1 _ _ _ HS.out.res
  have r2 : wc.cell? ⟨w.heap.size + 1, 2, none⟩ = some (.int .i64 0) := cell_of_row wc _ 2 _ _ _ HS.out.res
  have r3 : wc.cell? ⟨w.heap.size + 1, 3, none⟩ = some (.bool false) := cell_of_row wc _ 3 _ _ _ HS.out.res
  have r4 : wc.cell? ⟨w.heap.size + 1, 4, none⟩ = some (.int .u32 0) := cell_of_row wc _ 4 _ _ _ HS.out.res
  have r5 : wc.cell? ⟨w.heap.size + 1, 5, none⟩ = some (.bool false) := cell_of_row wc _ 5 _ _ _ HS.out.res
  have r6 : wc.cell? ⟨w.heap.size + 1, 6, none⟩ = some (.int .u32 0) := cell_of_row wc _ 6 _ _ _ HS.out.res
  have r7 : wc.cell? ⟨w.heap.size + 1, 7, none⟩ = some (.bool false) := cell_of_row wc _ 7 _ _ _ HS.out.res
  have r8 : wc.cell? ⟨w.heap.size + 1, 8, none⟩ = some (.int .u32 0) := cell_of_row wc _ 8 _ _ _ HS.out.res
  have q0 : wc.frozen? ⟨w.heap.size + 1, 0, none⟩ = false := frozen_of_row wc _ 0 _ _ HS.out.res
  have q1 : wc.frozen? ⟨w.heap.size + 1, 1, none⟩ = false := frozen_of_row wc _ 1 _ _ HS.out.res
  have q2 : wc.frozen? ⟨w.heap.size + 1, 2, none⟩ = false := frozen_of_row wc _ 2 _ _ HS.out.res
  have q3 : wc.frozen? ⟨w.heap.size + 1, 3, none⟩ = false := frozen_of_row wc _ 3 _ _ HS.out.res
  have q4 : wc.frozen? ⟨w.heap.size + 1, 4, none⟩ = false := frozen_of_row wc _ 4 _ _ HS.out.res
  have q5 : wc.frozen? ⟨w.heap.size + 1, 5, none⟩ = false := frozen_of_row wc _ 5 _ _ HS.out.res
  have q6 : wc.frozen? ⟨w.heap.size + 1, 6, none⟩ = false := frozen_of_row wc _ 6 _ _ HS.out.res
  have q7 : wc.frozen? ⟨w.heap.size + 1, 7, none⟩ = false := frozen_of_row wc _ 7 _ _ HS.out.res
  have q8 : wc.frozen? ⟨w.heap.size + 1, 8, none⟩ = false := frozen_of_row wc _ 8 _ _ HS.out.res
  by_cases h2 : 2 ≤ F
  rotate_left
  ·have t2 : decide ((F : Int) < 2) = true := decide_eq_true (by omega)
   have HP := zh (show okR R = false by unfold okR canonP; rw [← HFM.out.1, decide_eq_false h2]; rfl)
   go_wp2_with fail
   go_quiet (fail)
   go_wp2_with fail
   refine bodyPost_ret (v := .tuple #[spanv ⟨false, 0⟩ 0 ⟨false, 0⟩ ⟨false, 0⟩ ⟨false, 0⟩, .bool false]) (by simp [spanv, results, Tryz.results26, go_sem, r0, r1, r2, r3, r4, r5, r6, r7, r8]) rfl ⟨⟨false, 0⟩, 0, ⟨false, 0⟩, ⟨false, 0⟩, ⟨false, 0⟩, by rw [HP.out], (fun h => by rw [HP.out] at h; cases h), ?_⟩
   repeat refine Below.setCell ?_ (by simp) _
   exact below_drewN HS.out.below _
  have t2 : decide ((F : Int) < 2) = false := decide_eq_false (by omega)
  by_cases hal : m % 2 ^ F = 0
  rotate_left
  ·have HP := zh (show okR R = false by
    unfold okR canonP
    rw [decide_eq_false (p := R.a.net R.free = R.a) (fun h => by have h' : R.a.n / 2 ^ R.free * 2 ^ R.free = R.a.n := congrArg Ad.n h; rw [← HFM.out.1, ← HFM.out.2] at h'; exact hal (by have := Nat.div_add_mod m (2 ^ F); rw [Nat.mul_comm] at this; omega))]
    simp)
   obtain ⟨r, hr⟩ : ∃ r : Nat, r = m % 2 ^ F := ⟨_, rfl⟩
   have hr0 : r ≠ 0 := by omega
   have hand : bits .and .u32 (m : Int) (((2 : Int) ^ F - 1) % 4294967296) = (r : Int) := by rw [hr]; exact zfE m F hn (by omega)
   have t3 : ((r : Int) != (0 : Int)) = true := by rw [bne_iff_ne]; omega
   clear hr hal
   go_wp2_with fail
   go_quiet (fail)
   go_wp2_with fail
   refine bodyPost_ret (v := .tuple #[spanv ⟨false, 0⟩ 0 ⟨false, 0⟩ ⟨false, 0⟩ ⟨false, 0⟩, .bool false]) (by simp [spanv, results, Tryz.results26, go_sem, r0, r1, r2, r3, r4, r5, r6, r7, r8]) rfl ⟨⟨false, 0⟩, 0, ⟨false, 0⟩, ⟨false, 0⟩, ⟨false, 0⟩, by rw [HP.out], (fun h => by rw [HP.out] at h; cases h), ?_⟩
   repeat refine Below.setCell ?_ (by simp) _
   exact below_drewN HS.out.below _
  have h2' : 2 ≤ R.free := by rw [← HFM.out.1]; exact h2
  have hnet : R.a.net R.free = R.a := by
   have : R.a.n / 2 ^ R.free * 2 ^ R.free = R.a.n := by rw [← HFM.out.1, ← HFM.out.2]; have := Nat.div_add_mod m (2 ^ F); rw [Nat.mul_comm] at this; omega
   show (⟨R.a.six, R.a.n / 2 ^ R.free * 2 ^ R.free⟩ : Ad) = R.a
   rw [this]
  have HNET := zh (And.intro h2' hnet)
  have hup : m + 1 < 4294967296 := by
   have h := up_ok HK.out.oa HK.out.room h2' hnet
   have h' : R.a.n + 1 < if R.a.six then 65536 else 4294967296 := h
   rw [← HFM.out.2] at h'
   split at h' <;> omega
  have hand : bits .and .u32 (m : Int) (((2 : Int) ^ F - 1) % 4294967296) = 0 := by rw [zfE m F hn (by omega), hal]; rfl
  obtain ⟨L, hL⟩ : ∃ L : Nat, L = m / 2 ^ F * 2 ^ F + (2 ^ F - 1) := ⟨_, rfl⟩
  have HLV := zh hL
  have hL3 : 3 ≤ L ∧ L < 4294967296 := by
   have hx := last_ok HK.out.oa HK.out.room
   have hx' : R.a.n / 2 ^ R.free * 2 ^ R.free + (2 ^ R.free - 1) < if R.a.six then 65536 else 4294967296 := hx
   rw [← HFM.out.2, ← HFM.out.1, ← hL] at hx'
   have h4 : 2 ^ 2 ≤ 2 ^ F := Nat.pow_le_pow_right (by decide) h2
   refine ⟨by omega, ?_⟩
   split at hx' <;> omega
  have HLAST := zh (show ∀ (st en gw : Ad) w, Calls Tryz.prog 48 #[.agg #[.bool b, .int .u32 m, .int .i64 F, .bool st.six, .int .u32 st.n, .bool en.six, .int .u32 en.n, .bool gw.six, .int .u32 gw.n]] w (BelowPost w (.agg #[.bool b, .int .u32 L])) from fun st en gw w => by
   rw [hL]
   exact zjL ⟨b, m⟩ st en gw F w hn (by omega) hal)
  have HHAS := zh (show ∀ (st : Ad) w, Calls Tryz.prog 47 #[.agg #[.bool b, .int .u32 m, .int .i64 F, .bool b, .int .u32 m, .bool b, .int .u32 L, .bool false, .int .u32 0], .agg #[.bool st.six, .int .u32 st.n]] w (BelowPost w (.bool (hasB ⟨b, m⟩ ⟨b, m⟩ ⟨b, L⟩ st))) from fun st w => zeJ ⟨b, m⟩ ⟨b, m⟩ ⟨b, L⟩ ⟨false, 0⟩ st F w)
  have hL1 := hL3.1
  have hL2 := hL3.2
  clear h2' hnet hL hal h2 hL3
  go_wp2_with fail
  go_quiet (fail)
  go_upto_region 9 with fail
  go_cut [] (fun wx => SpR w w1.heap.size s0 s1 s2 s3 b m F ⟨b, m + 1⟩ ⟨b, L⟩ ⟨b, m + 1⟩ wx)
  case first =>
   refine wp_region_held_drew (S := (fun w' => w'.cell? ⟨w1.heap.size, 0, none⟩ = some (.bool b) ∧ w'.cell? ⟨w1.heap.size, 1, none⟩ = some (.int .u32 m))) (by kernel_rfl) ?_ (fun hHeld => ?_)
   ·go_keep
   refine zA 0 53 ?v0x1 (by rfl) (by kernel_rfl) (by kernel_rfl) (by kernel_rfl) (by kernel_rfl) (fun _ _ _ _ h => h) (by kernel_rfl) ?hy0x1 (by assumption) ?nx0x1
   case hy0x1 =>
    intro w' hSw
    go_simp
    try with_reducible rfl
   simp only [sA, sB, sC]
   refine zA 1 54 ?v1x2 (by rfl) (by kernel_rfl) (by kernel_rfl) (by kernel_rfl) (by kernel_rfl) (fun _ _ _ _ h => h) (by kernel_rfl) ?hy1x2 (by assumption) ?nx1x2
   case hy1x2 =>
    intro w' hSw
    go_simp
    try with_reducible rfl
   simp only [sA, sB, sC]
   refine zA 2 55 ?v2x3 (by rfl) (by kernel_rfl) (by kernel_rfl) (by kernel_rfl) (by kernel_rfl) (fun _ _ _ _ h => h) (by kernel_rfl) ?hy2x3 (by assumption) ?nx2x3
   case hy2x3 =>
    intro w' hSw
    go_simp
    try with_reducible rfl
   simp only [sA, sB, sC]
   refine zA 3 56 ?v3x4 (by rfl) (by kernel_rfl) (by kernel_rfl) (by kernel_rfl) (by kernel_rfl) (fun _ _ _ _ h => h) (by kernel_rfl) ?hy3x4 (by assumption) ?nx3x4
   case hy3x4 =>
    intro w' hSw
    go_simp
    try with_reducible rfl
   simp only [sA, sB, sC]
   refine zA 4 57 ?v4x5 (by rfl) (by kernel_rfl) (by kernel_rfl) (by kernel_rfl) (by kernel_rfl) (fun _ _ _ _ h => h) (by kernel_rfl) ?hy4x5 (by assumption) ?nx4x5
   case hy4x5 =>
    intro w' hSw
    go_simp
    try with_reducible rfl
   simp only [sA, sB, sC]
   refine zA 5 58 ?v5x6 (by rfl) (by kernel_rfl) (by kernel_rfl) (by kernel_rfl) (by kernel_rfl) (fun _ _ _ _ h => h) (by kernel_rfl) ?hy5x6 (by assumption) ?nx5x6
   case hy5x6 =>
    intro w' hSw
    go_simp
    try with_reducible rfl
   simp only [sA, sB, sC]
   refine zA 8 61 ?v8x7 (by rfl) (by kernel_rfl) (by kernel_rfl) (by kernel_rfl) (by kernel_rfl) (fun _ _ _ _ h => h) (by kernel_rfl) ?hy8x7 (by assumption) ?nx8x7
   case hy8x7 =>
    intro w' hSw
    go_simp
    try with_reducible rfl
   simp only [sA, sB, sC]
   refine zA 9 62 ?v9x8 (by rfl) (by kernel_rfl) (by kernel_rfl) (by kernel_rfl) (by kernel_rfl) (fun _ _ _ _ h => h) (by kernel_rfl) ?hy9x8 (by assumption) ?nx9x8
   case hy9x8 =>
    intro w' hSw
    go_simp
    try with_reducible rfl
   simp only [sA, sB, sC]
   refine zA 10 63 ?v10x9 (by rfl) (by kernel_rfl) (by kernel_rfl) (by kernel_rfl) (by kernel_rfl) (fun _ _ _ _ h => h) (by kernel_rfl) ?hy10x9 (by assumption) ?nx10x9
   case hy10x9 =>
    intro w' hSw
    go_simp
    try with_reducible rfl
   simp only [sA, sB, sC]
   refine zA 11 64 ?v11x10 (by rfl) (by kernel_rfl) (by kernel_rfl) (by kernel_rfl) (by kernel_rfl) (fun _ _ _ _ h => h) (by kernel_rfl) ?hy11x10 (by assumption) ?nx11x10
   case hy11x10 =>
    intro w' hSw
    go_simp
    try with_reducible rfl
   simp only [sA, sB, sC]
   refine zA 12 65 ?v12x11 (by rfl) (by kernel_rfl) (by kernel_rfl) (by kernel_rfl) (by kernel_rfl) (fun _ _ _ _ h => h) (by kernel_rfl) ?hy12x11 (by assumption) ?nx12x11
   case hy12x11 =>
    intro w' hSw
    go_simp
    try with_reducible rfl
   simp only [sA, sB, sC]
   refine zA 13 66 ?v13x12 (by rfl) (by kernel_rfl) (by kernel_rfl) (by kernel_rfl) (by kernel_rfl) (fun _ _ _ _ h => h) (by kernel_rfl) ?hy13x12 (by assumption) ?nx13x12
   case hy13x12 =>
    intro w' hSw
    go_simp
    try with_reducible rfl
   simp only [sA, sB, sC]
   refine wpAnyH_ready (rs := [6]) (by kernel_rfl) (by simp) (AllReadyH.cons (o := _) rfl (fun K hK => ?_) AllReadyH.nil)
   go_simp
   refine hK.out _ _ ?_ (fun hHeld => ?_)
   ·assumption
   clear hK K
   try simp only [Act.put, sA, sB, sC]
   refine zA 14 67 ?v14x13 (by rfl) (by kernel_rfl) (by kernel_rfl) (by kernel_rfl) (by kernel_rfl) (fun _ _ _ _ h => h) (by kernel_rfl) ?hy14x13 (by assumption) ?nx14x13
   case hy14x13 =>
    intro w' hSw
    go_simp
    try with_reducible rfl
   simp only [sA, sB, sC]
   refine wpAnyH_ready (rs := [7]) (by kernel_rfl) (by simp) (AllReadyH.cons (o := _) rfl (fun K hK => ?_) AllReadyH.nil)
   go_simp
   go_at_call 48
   refine (HLAST.out ⟨false, 0⟩ ⟨false, 0⟩ ⟨false, 0⟩ _).mono ?_
   rintro e w5 ⟨rfl, hb5⟩
   have HS5 := zh (HS.out.on (below_tr (below_drewN (Below.refl _ _) _) hb5))
   clear hb5
   have e0 : w5.cell? ⟨w1.heap.size, 0, none⟩ = some (.bool b) := cell_of_row w5 _ 0 _ _ _ HS5.out.ad
   have e1 : w5.cell? ⟨w1.heap.size, 1, none⟩ = some (.int .u32 m) := cell_of_row w5 _ 1 _ _ _ HS5.out.ad
   have k0 : w5.cell? ⟨w1.heap.size + 1, 0, none⟩ = some (.bool b) := cell_of_row w5 _ 0 _ _ _ HS5.out.sp
   have k1 : w5.cell? ⟨w1.heap.size + 1, 1, none⟩ = some (.int .u32 m) := cell_of_row w5 _ 1 _ _ _ HS5.out.sp
   have k2 : w5.cell? ⟨w1.heap.size + 1, 2, none⟩ = some (.int .i64 F) := cell_of_row w5 _ 2 _ _ _ HS5.out.sp
   have k3 : w5.cell? ⟨w1.heap.size + 1, 3, none⟩ = some (.bool false) := cell_of_row w5 _ 3 _ _ _ HS5.out.sp
   have k4 : w5.cell? ⟨w1.heap.size + 1, 4, none⟩ = some (.int .u32 0) := cell_of_row w5 _ 4 _ _ _ HS5.out.sp
   have k5 : w5.cell? ⟨w1.heap.size + 1, 5, none⟩ = some (.bool false) := cell_of_row w5 _ 5 _ _ _ HS5.out.sp
   have k6 : w5.cell? ⟨w1.heap.size + 1, 6, none⟩ = some (.int .u32 0) := cell_of_row w5 _ 6 _ _ _ HS5.out.sp
   have k7 : w5.cell? ⟨w1.heap.size + 1, 7, none⟩ = some (.bool false) := cell_of_row w5 _ 7 _ _ _ HS5.out.sp
   have k8 : w5.cell? ⟨w1.heap.size + 1, 8, none⟩ = some (.int .u32 0) := cell_of_row w5 _ 8 _ _ _ HS5.out.sp
   have z3 : w5.frozen? ⟨w1.heap.size + 1, 3, none⟩ = false := frozen_of_row w5 _ 3 _ _ HS5.out.sp
   have z4 : w5.frozen? ⟨w1.heap.size + 1, 4, none⟩ = false := frozen_of_row w5 _ 4 _ _ HS5.out.sp
   have z5 : w5.frozen? ⟨w1.heap.size + 1, 5, none⟩ = false := frozen_of_row w5 _ 5 _ _ HS5.out.sp
   have z6 : w5.frozen? ⟨w1.heap.size + 1, 6, none⟩ = false := frozen_of_row w5 _ 6 _ _ HS5.out.sp
   have z7 : w5.frozen? ⟨w1.heap.size + 1, 7, none⟩ = false := frozen_of_row w5 _ 7 _ _ HS5.out.sp
   have z8 : w5.frozen? ⟨w1.heap.size + 1, 8, none⟩ = false := frozen_of_row w5 _ 8 _ _ HS5.out.sp
   have kz : w1.heap.size + 1 < w5.heap.size := HS5.out.size
   refine hK.out _ _ ?_ (fun hHeld => ?_)
   ·exact ⟨e0, e1⟩
   clear hK K
   try simp only [Act.put, sA, sB, sC]
   refine wpAnyH_ready (rs := [15]) (by kernel_rfl) (by simp) (AllReadyH.cons (o := _) rfl (fun K hK => ?_) AllReadyH.nil)
   go_simp
   refine hK.out _ _ ?_ (fun hHeld => ?_)
   ·go_keep
   clear hK K
   try simp only [Act.put, sA, sB, sC]
   refine zA 16 68 ?v16x14 (by rfl) (by kernel_rfl) (by kernel_rfl) (by kernel_rfl) (by kernel_rfl) (fun _ _ _ _ h => h) (by kernel_rfl) ?hy16x14 (by assumption) ?nx16x14
   case hy16x14 =>
    intro w' hSw
    go_simp
    try with_reducible rfl
   simp only [sA, sB, sC]
   refine wpAnyH_ready (rs := [17]) (by kernel_rfl) (by simp) (AllReadyH.cons (o := _) rfl (fun K hK => ?_) AllReadyH.nil)
   go_simp
   refine hK.out _ _ ?_ (fun hHeld => ?_)
   ·go_keep
   clear hK K
   try simp only [Act.put, sA, sB, sC]
   refine zA 18 69 ?v18x15 (by rfl) (by kernel_rfl) (by kernel_rfl) (by kernel_rfl) (by kernel_rfl) (fun _ _ _ _ h => h) (by kernel_rfl) ?hy18x15 (by assumption) ?nx18x15
   case hy18x15 =>
    intro w' hSw
    go_simp
    try with_reducible rfl
   simp only [sA, sB, sC]
   refine wpAnyH_ready (rs := [19]) (by kernel_rfl) (by simp) (AllReadyH.cons (o := _) rfl (fun K hK => ?_) AllReadyH.nil)
   go_simp
   refine hK.out _ _ ?_ (fun hHeld => ?_)
   ·go_keep
   clear hK K
   try simp only [Act.put, sA, sB, sC]
   refine wpAnyH_done (by kernel_rfl) ?_ _
   go_wp2_with fail
   go_meet
   exact ((HS5.out.toSt b (m + 1) _ (by rw [IntKind.wrap_u32]; omega)).toEn b L _ rfl).toGw b (m + 1) _ (by rw [IntKind.wrap_u32]; omega)
  case rest =>
   have HS := zh hcut
   clear hcut
   have d0 : wc.cell? ⟨w1.heap.size, 0, none⟩ = some (.bool b) := cell_of_row wc _ 0 _ _ _ HS.out.ad
   have d1 : wc.cell? ⟨w1.heap.size, 1, none⟩ = some (.int .u32 m) := cell_of_row wc _ 1 _ _ _ HS.out.ad
   have g0 : wc.cell? ⟨w1.heap.size + 1, 0, none⟩ = some (.bool b) := cell_of_row wc _ 0 _ _ _ HS.out.sp
   have g1 : wc.cell? ⟨w1.heap.size + 1, 1, none⟩ = some (.int .u32 m) := cell_of_row wc _ 1 _ _ _ HS.out.sp
   have g2 : wc.cell? ⟨w1.heap.size + 1, 2, none⟩ = some (.int .i64 F) := cell_of_row wc _ 2 _ _ _ HS.out.sp
   have g3 : wc.cell? ⟨w1.heap.size + 1, 3, none⟩ = some (.bool b) := cell_of_row wc _ 3 _ _ _ HS.out.sp
   have g4 : wc.cell? ⟨w1.heap.size + 1, 4, none⟩ = some (.int .u32 ((m + 1 : Nat) : Int)) := cell_of_row wc _ 4 _ _ _ HS.out.sp
   have g5 : wc.cell? ⟨w1.heap.size + 1, 5, none⟩ = some (.bool b) := cell_of_row wc _ 5 _ _ _ HS.out.sp
   have g6 : wc.cell? ⟨w1.heap.size + 1, 6, none⟩ = some (.int .u32 L) := cell_of_row wc _ 6 _ _ _ HS.out.sp
   have g7 : wc.cell? ⟨w1.heap.size + 1, 7, none⟩ = some (.bool b) := cell_of_row wc _ 7 _ _ _ HS.out.sp
   have g8 : wc.cell? ⟨w1.heap.size + 1, 8, none⟩ = some (.int .u32 ((m + 1 : Nat) : Int)) := cell_of_row wc _ 8 _ _ _ HS.out.sp
   have f3 : wc.frozen? ⟨w1.heap.size + 1, 3, none⟩ = false := frozen_of_row wc _ 3 _ _ HS.out.sp
   have f4 : wc.frozen? ⟨w1.heap.size + 1, 4, none⟩ = false := frozen_of_row wc _ 4 _ _ HS.out.sp
   have f5 : wc.frozen? ⟨w1.heap.size + 1, 5, none⟩ = false := frozen_of_row wc _ 5 _ _ HS.out.sp
   have f6 : wc.frozen? ⟨w1.heap.size + 1, 6, none⟩ = false := frozen_of_row wc _ 6 _ _ HS.out.sp
   have f7 : wc.frozen? ⟨w1.heap.size + 1, 7, none⟩ = false := frozen_of_row wc _ 7 _ _ HS.out.sp
   have f8 : wc.frozen? ⟨w1.heap.size + 1, 8, none⟩ = false := frozen_of_row wc _ 8 _ _ HS.out.sp
   have gz : w1.heap.size + 1 < wc.heap.size := HS.out.size
   go_upto_if 72 with fail
   go_cut [] (fun wx => SpR w w1.heap.size s0 s1 s2 s3 b m F ⟨b, m + 1⟩ ⟨b, if b = true then L else L - 1⟩ ⟨b, m + 1⟩ wx)
   case first =>
    cases b with
    | true =>
     go_wp2_with fail
     go_meet
     exact HS.out
    | false =>
     go_wp2_with fail
     go_meet
     exact HS.out.toEnN (L - 1) _ (by omega)
   case rest =>
    have HS := zh hcut
    clear hcut
    have x0 : wc.cell? ⟨w.heap.size, 0, none⟩ = some (.string s0) := cell_of_row wc _ 0 _ _ _ HS.out.box
    have x1 : wc.cell? ⟨w.heap.size, 1, none⟩ = some (.string s1) := cell_of_row wc _ 1 _ _ _ HS.out.box
    have x2 : wc.cell? ⟨w.heap.size, 2, none⟩ = some (.string s2) := cell_of_row wc _ 2 _ _ _ HS.out.box
    have x3 : wc.cell? ⟨w.heap.size, 3, none⟩ = some (.string s3) := cell_of_row wc _ 3 _ _ _ HS.out.box
    obtain ⟨t, ht⟩ : ∃ t : Bool, s1.toList.isEmpty = t := ⟨_, rfl⟩
    go_upto_if 81 with fail
    go_cut [] (fun wx => SpR w w1.heap.size s0 s1 s2 s3 b m F (R.o1.getD ⟨b, m + 1⟩) ⟨b, if b = true then L else L - 1⟩ ⟨b, m + 1⟩ wx)
    case first =>
     cases ho : R.o1 with
     | none =>
      have he : t = true := by rw [← ht]; exact text_none (by have := H.out.t1; rw [ho] at this; exact this)
      have HO := zh ho
      subst he
      clear ho
      go_wp2_with fail
      go_meet
      rw [HO.out]
      exact HS.out
     | some s =>
      have htx : TextIs s1 (some s) := by have := H.out.t1; rw [ho] at this; exact this
      have he : t = false := by rw [← ht]; exact text_some htx
      have HO := zh ho
      have HRD := zh (show readL (bl s1) = some s from htx)
      subst he
      clear ho htx
      go_wp2_with fail
      refine (read_any s1 _ (by omega)).mono ?_
      rintro e w5 ⟨a, ok, rfl, ha, hna, hb5⟩
      have ha2 : ok = true ∧ a = s := by
       rw [HRD.out] at ha
       cases ok with
       | true => rw [if_pos rfl] at ha; exact ⟨rfl, (Option.some.inj ha).symm⟩
       | false => rw [if_neg (by decide)] at ha; cases ha
      obtain ⟨rfl, rfl⟩ := ha2
      have HS5 := zh (HS.out.on hb5)
      clear ha hb5
      unfold adv
      have e0 : w5.cell? ⟨w1.heap.size, 0, none⟩ = some (.bool b) := cell_of_row w5 _ 0 _ _ _ HS5.out.ad
      have e1 : w5.cell? ⟨w1.heap.size, 1, none⟩ = some (.int .u32 m) := cell_of_row w5 _ 1 _ _ _ HS5.out.ad
      have k0 : w5.cell? ⟨w1.heap.size + 1, 0, none⟩ = some (.bool b) := cell_of_row w5 _ 0 _ _ _ HS5.out.sp
      have k1 : w5.cell? ⟨w1.heap.size + 1, 1, none⟩ = some (.int .u32 m) := cell_of_row w5 _ 1 _ _ _ HS5.out.sp
      have k2 : w5.cell? ⟨w1.heap.size + 1, 2, none⟩ = some (.int .i64 F) := cell_of_row w5 _ 2 _ _ _ HS5.out.sp
      have k3 : w5.cell? ⟨w1.heap.size + 1, 3, none⟩ = some (.bool (⟨b, m + 1⟩ : Ad).six) := cell_of_row w5 _ 3 _ _ _ HS5.out.sp
      have k4 : w5.cell? ⟨w1.heap.size + 1, 4, none⟩ = some (.int .u32 (⟨b, m + 1⟩ : Ad).n) := cell_of_row w5 _ 4 _ _ _ HS5.out.sp
      have k5 : w5.cell? ⟨w1.heap.size + 1, 5, none⟩ = some (.bool (⟨b, if b = true then L else L - 1⟩ : Ad).six) := cell_of_row w5 _ 5 _ _ _ HS5.out.sp
      have k6 : w5.cell? ⟨w1.heap.size + 1, 6, none⟩ = some (.int .u32 (⟨b, if b = true then L else L - 1⟩ : Ad).n) := cell_of_row w5 _ 6 _ _ _ HS5.out.sp
      have k7 : w5.cell? ⟨w1.heap.size + 1, 7, none⟩ = some (.bool (⟨b, m + 1⟩ : Ad).six) := cell_of_row w5 _ 7 _ _ _ HS5.out.sp
      have k8 : w5.cell? ⟨w1.heap.size + 1, 8, none⟩ = some (.int .u32 (⟨b, m + 1⟩ : Ad).n) := cell_of_row w5 _ 8 _ _ _ HS5.out.sp
      have z3 : w5.frozen? ⟨w1.heap.size + 1, 3, none⟩ = false := frozen_of_row w5 _ 3 _ _ HS5.out.sp
      have z4 : w5.frozen? ⟨w1.heap.size + 1, 4, none⟩ = false := frozen_of_row w5 _ 4 _ _ HS5.out.sp
      have z5 : w5.frozen? ⟨w1.heap.size + 1, 5, none⟩ = false := frozen_of_row w5 _ 5 _ _ HS5.out.sp
      have z6 : w5.frozen? ⟨w1.heap.size + 1, 6, none⟩ = false := frozen_of_row w5 _ 6 _ _ HS5.out.sp
      have z7 : w5.frozen? ⟨w1.heap.size + 1, 7, none⟩ = false := frozen_of_row w5 _ 7 _ _ HS5.out.sp
      have z8 : w5.frozen? ⟨w1.heap.size + 1, 8, none⟩ = false := frozen_of_row w5 _ 8 _ _ HS5.out.sp
      have kz : w1.heap.size + 1 < w5.heap.size := HS5.out.size
      go_wp2_with fail
      go_meet
      rw [HO.out]
      exact HS5.out.toSt a.six a.n _ rfl
    case rest =>
     clear ht t
     have HS := zh hcut
     clear hcut
     have x0 : wc.cell? ⟨w.heap.size, 0, none⟩ = some (.string s0) := cell_of_row wc _ 0 _ _ _ HS.out.box
     have x1 : wc.cell? ⟨w.heap.size, 1, none⟩ = some (.string s1) := cell_of_row wc _ 1 _ _ _ HS.out.box
     have x2 : wc.cell? ⟨w.heap.size, 2, none⟩ = some (.string s2) := cell_of_row wc _ 2 _ _ _ HS.out.box
     have x3 : wc.cell? ⟨w.heap.size, 3, none⟩ = some (.string s3) := cell_of_row wc _ 3 _ _ _ HS.out.box
     obtain ⟨t, ht⟩ : ∃ t : Bool, s2.toList.isEmpty = t := ⟨_, rfl⟩
     go_upto_if 91 with fail
     go_cut [] (fun wx => SpR w w1.heap.size s0 s1 s2 s3 b m F (R.o1.getD ⟨b, m + 1⟩) (R.o2.getD ⟨b, if b = true then L else L - 1⟩) ⟨b, m + 1⟩ wx)
     case first =>
      cases ho : R.o2 with
      | none =>
       have he : t = true := by rw [← ht]; exact text_none (by have := H.out.t2; rw [ho] at this; exact this)
       have HO := zh ho
       subst he
       clear ho
       go_wp2_with fail
       go_meet
       rw [HO.out]
       exact HS.out
      | some s =>
       have htx : TextIs s2 (some s) := by have := H.out.t2; rw [ho] at this; exact this
       have he : t = false := by rw [← ht]; exact text_some htx
       have HO := zh ho
       have HRD := zh (show readL (bl s2) = some s from htx)
       subst he
       clear ho htx
       go_wp2_with fail
       refine (read_any s2 _ (by omega)).mono ?_
       rintro e w5 ⟨a, ok, rfl, ha, hna, hb5⟩
       have ha2 : ok = true ∧ a = s := by
        rw [HRD.out] at ha
        cases ok with
        | true => rw [if_pos rfl] at ha; exact ⟨rfl, (Option.some.inj ha).symm⟩
        | false => rw [if_neg (by decide)] at ha; cases ha
       obtain ⟨rfl, rfl⟩ := ha2
       have HS5 := zh (HS.out.on hb5)
       clear ha hb5
       unfold adv
       have e0 : w5.cell? ⟨w1.heap.size, 0, none⟩ = some (.bool b) := cell_of_row w5 _ 0 _ _ _ HS5.out.ad
       have e1 : w5.cell? ⟨w1.heap.size, 1, none⟩ = some (.int .u32 m) := cell_of_row w5 _ 1 _ _ _ HS5.out.ad
       have k0 : w5.cell? ⟨w1.heap.size + 1, 0, none⟩ = some (.bool b) := cell_of_row w5 _ 0 _ _ _ HS5.out.sp
       have k1 : w5.cell? ⟨w1.heap.size + 1, 1, none⟩ = some (.int .u32 m) := cell_of_row w5 _ 1 _ _ _ HS5.out.sp
       have k2 : w5.cell? ⟨w1.heap.size + 1, 2, none⟩ = some (.int .i64 F) := cell_of_row w5 _ 2 _ _ _ HS5.out.sp
       have k3 : w5.cell? ⟨w1.heap.size + 1, 3, none⟩ = some (.bool ((R.o1.getD ⟨b, m + 1⟩) : Ad).six) := cell_of_row w5 _ 3 _ _ _ HS5.out.sp
       have k4 : w5.cell? ⟨w1.heap.size + 1, 4, none⟩ = some (.int .u32 ((R.o1.getD ⟨b, m + 1⟩) : Ad).n) := cell_of_row w5 _ 4 _ _ _ HS5.out.sp
       have k5 : w5.cell? ⟨w1.heap.size + 1, 5, none⟩ = some (.bool (⟨b, if b = true then L else L - 1⟩ : Ad).six) := cell_of_row w5 _ 5 _ _ _ HS5.out.sp
       have k6 : w5.cell? ⟨w1.heap.size + 1, 6, none⟩ = some (.int .u32 (⟨b, if b = true then L else L - 1⟩ : Ad).n) := cell_of_row w5 _ 6 _ _ _ HS5.out.sp
       have k7 : w5.cell? ⟨w1.heap.size + 1, 7, none⟩ = some (.bool (⟨b, m + 1⟩ : Ad).six) := cell_of_row w5 _ 7 _ _ _ HS5.out.sp
       have k8 : w5.cell? ⟨w1.heap.size + 1, 8, none⟩ = some (.int .u32 (⟨b, m + 1⟩ : Ad).n) := cell_of_row w5 _ 8 _ _ _ HS5.out.sp
       have z3 : w5.frozen? ⟨w1.heap.size + 1, 3, none⟩ = false := frozen_of_row w5 _ 3 _ _ HS5.out.sp
       have z4 : w5.frozen? ⟨w1.heap.size + 1, 4, none⟩ = false := frozen_of_row w5 _ 4 _ _ HS5.out.sp
       have z5 : w5.frozen? ⟨w1.heap.size + 1, 5, none⟩ = false := frozen_of_row w5 _ 5 _ _ HS5.out.sp
       have z6 : w5.frozen? ⟨w1.heap.size + 1, 6, none⟩ = false := frozen_of_row w5 _ 6 _ _ HS5.out.sp
       have z7 : w5.frozen? ⟨w1.heap.size + 1, 7, none⟩ = false := frozen_of_row w5 _ 7 _ _ HS5.out.sp
       have z8 : w5.frozen? ⟨w1.heap.size + 1, 8, none⟩ = false := frozen_of_row w5 _ 8 _ _ HS5.out.sp
       have kz : w1.heap.size + 1 < w5.heap.size := HS5.out.size
       go_wp2_with fail
       go_meet
       rw [HO.out]
       exact HS5.out.toEn a.six a.n _ rfl
     case rest =>
      clear ht t
      have HS := zh hcut
      clear hcut
      have x0 : wc.cell? ⟨w.heap.size, 0, none⟩ = some (.string s0) := cell_of_row wc _ 0 _ _ _ HS.out.box
      have x1 : wc.cell? ⟨w.heap.size, 1, none⟩ = some (.string s1) := cell_of_row wc _ 1 _ _ _ HS.out.box
      have x2 : wc.cell? ⟨w.heap.size, 2, none⟩ = some (.string s2) := cell_of_row wc _ 2 _ _ _ HS.out.box
      have x3 : wc.cell? ⟨w.heap.size, 3, none⟩ = some (.string s3) := cell_of_row wc _ 3 _ _ _ HS.out.box
      obtain ⟨t, ht⟩ : ∃ t : Bool, s3.toList.isEmpty = t := ⟨_, rfl⟩
      go_upto_if 101 with fail
      go_cut [] (fun wx => SpR w w1.heap.size s0 s1 s2 s3 b m F (R.o1.getD ⟨b, m + 1⟩) (R.o2.getD ⟨b, if b = true then L else L - 1⟩) (R.o3.getD ⟨b, m + 1⟩) wx)
      case first =>
       cases ho : R.o3 with
       | none =>
        have he : t = true := by rw [← ht]; exact text_none (by have := H.out.t3; rw [ho] at this; exact this)
        have HO := zh ho
        subst he
        clear ho
        go_wp2_with fail
        go_meet
        rw [HO.out]
        exact HS.out
       | some s =>
        have htx : TextIs s3 (some s) := by have := H.out.t3; rw [ho] at this; exact this
        have he : t = false := by rw [← ht]; exact text_some htx
        have HO := zh ho
        have HRD := zh (show readL (bl s3) = some s from htx)
        subst he
        clear ho htx
        go_wp2_with fail
        refine (read_any s3 _ (by omega)).mono ?_
        rintro e w5 ⟨a, ok, rfl, ha, hna, hb5⟩
        have ha2 : ok = true ∧ a = s := by
         rw [HRD.out] at ha
         cases ok with
         | true => rw [if_pos rfl] at ha; exact ⟨rfl, (Option.some.inj ha).symm⟩
         | false => rw [if_neg (by decide)] at ha; cases ha
        obtain ⟨rfl, rfl⟩ := ha2
        have HS5 := zh (HS.out.on hb5)
        clear ha hb5
        unfold adv
        have e0 : w5.cell? ⟨w1.heap.size, 0, none⟩ = some (.bool b) := cell_of_row w5 _ 0 _ _ _ HS5.out.ad
        have e1 : w5.cell? ⟨w1.heap.size, 1, none⟩ = some (.int .u32 m) := cell_of_row w5 _ 1 _ _ _ HS5.out.ad
        have k0 : w5.cell? ⟨w1.heap.size + 1, 0, none⟩ = some (.bool b) := cell_of_row w5 _ 0 _ _ _ HS5.out.sp
        have k1 : w5.cell? ⟨w1.heap.size + 1, 1, none⟩ = some (.int .u32 m) := cell_of_row w5 _ 1 _ _ _ HS5.out.sp
        have k2 : w5.cell? ⟨w1.heap.size + 1, 2, none⟩ = some (.int .i64 F) := cell_of_row w5 _ 2 _ _ _ HS5.out.sp
        have k3 : w5.cell? ⟨w1.heap.size + 1, 3, none⟩ = some (.bool ((R.o1.getD ⟨b, m + 1⟩) : Ad).six) := cell_of_row w5 _ 3 _ _ _ HS5.out.sp
        have k4 : w5.cell? ⟨w1.heap.size + 1, 4, none⟩ = some (.int .u32 ((R.o1.getD ⟨b, m + 1⟩) : Ad).n) := cell_of_row w5 _ 4 _ _ _ HS5.out.sp
        have k5 : w5.cell? ⟨w1.heap.size + 1, 5, none⟩ = some (.bool ((R.o2.getD ⟨b, if b = true then L else L - 1⟩) : Ad).six) := cell_of_row w5 _ 5 _ _ _ HS5.out.sp
        have k6 : w5.cell? ⟨w1.heap.size + 1, 6, none⟩ = some (.int .u32 ((R.o2.getD ⟨b, if b = true then L else L - 1⟩) : Ad).n) := cell_of_row w5 _ 6 _ _ _ HS5.out.sp
        have k7 : w5.cell? ⟨w1.heap.size + 1, 7, none⟩ = some (.bool (⟨b, m + 1⟩ : Ad).six) := cell_of_row w5 _ 7 _ _ _ HS5.out.sp
        have k8 : w5.cell? ⟨w1.heap.size + 1, 8, none⟩ = some (.int .u32 (⟨b, m + 1⟩ : Ad).n) := cell_of_row w5 _ 8 _ _ _ HS5.out.sp
        have z3 : w5.frozen? ⟨w1.heap.size + 1, 3, none⟩ = false := frozen_of_row w5 _ 3 _ _ HS5.out.sp
        have z4 : w5.frozen? ⟨w1.heap.size + 1, 4, none⟩ = false := frozen_of_row w5 _ 4 _ _ HS5.out.sp
        have z5 : w5.frozen? ⟨w1.heap.size + 1, 5, none⟩ = false := frozen_of_row w5 _ 5 _ _ HS5.out.sp
        have z6 : w5.frozen? ⟨w1.heap.size + 1, 6, none⟩ = false := frozen_of_row w5 _ 6 _ _ HS5.out.sp
        have z7 : w5.frozen? ⟨w1.heap.size + 1, 7, none⟩ = false := frozen_of_row w5 _ 7 _ _ HS5.out.sp
        have z8 : w5.frozen? ⟨w1.heap.size + 1, 8, none⟩ = false := frozen_of_row w5 _ 8 _ _ HS5.out.sp
        have kz : w1.heap.size + 1 < w5.heap.size := HS5.out.size
        go_wp2_with fail
        go_meet
        rw [HO.out]
        exact HS5.out.toGw a.six a.n _ rfl
      case rest =>
       clear ht t
       obtain ⟨ST, hST⟩ : ∃ x : Ad, x = (R.o1.getD ⟨b, m + 1⟩) := ⟨_, rfl⟩
       obtain ⟨EN, hEN⟩ : ∃ x : Ad, x = (R.o2.getD ⟨b, if b = true then L else L - 1⟩) := ⟨_, rfl⟩
       obtain ⟨GW, hGW⟩ : ∃ x : Ad, x = (R.o3.getD ⟨b, m + 1⟩) := ⟨_, rfl⟩
       rw [← hST, ← hEN, ← hGW] at hcut
       have HST := zh hST
       have HEN := zh hEN
       have HGW := zh hGW
       clear hST hEN hGW
       have HS := zh hcut
       clear hcut
       have d0 : wc.cell? ⟨w1.heap.size, 0, none⟩ = some (.bool b) := cell_of_row wc _ 0 _ _ _ HS.out.ad
       have d1 : wc.cell? ⟨w1.heap.size, 1, none⟩ = some (.int .u32 m) := cell_of_row wc _ 1 _ _ _ HS.out.ad
       have g0 : wc.cell? ⟨w1.heap.size + 1, 0, none⟩ = some (.bool b) := cell_of_row wc _ 0 _ _ _ HS.out.sp
       have g1 : wc.cell? ⟨w1.heap.size + 1, 1, none⟩ = some (.int .u32 m) := cell_of_row wc _ 1 _ _ _ HS.out.sp
       have g2 : wc.cell? ⟨w1.heap.size + 1, 2, none⟩ = some (.int .i64 F) := cell_of_row wc _ 2 _ _ _ HS.out.sp
       have g3 : wc.cell? ⟨w1.heap.size + 1, 3, none⟩ = some (.bool ST.six) := cell_of_row wc _ 3 _ _ _ HS.out.sp
       have g4 : wc.cell? ⟨w1.heap.size + 1, 4, none⟩ = some (.int .u32 ST.n) := cell_of_row wc _ 4 _ _ _ HS.out.sp
       have g5 : wc.cell? ⟨w1.heap.size + 1, 5, none⟩ = some (.bool EN.six) := cell_of_row wc _ 5 _ _ _ HS.out.sp
       have g6 : wc.cell? ⟨w1.heap.size + 1, 6, none⟩ = some (.int .u32 EN.n) := cell_of_row wc _ 6 _ _ _ HS.out.sp
       have g7 : wc.cell? ⟨w1.heap.size + 1, 7, none⟩ = some (.bool GW.six) := cell_of_row wc _ 7 _ _ _ HS.out.sp
       have g8 : wc.cell? ⟨w1.heap.size + 1, 8, none⟩ = some (.int .u32 GW.n) := cell_of_row wc _ 8 _ _ _ HS.out.sp
       have f3 : wc.frozen? ⟨w1.heap.size + 1, 3, none⟩ = false := frozen_of_row wc _ 3 _ _ HS.out.sp
       have f4 : wc.frozen? ⟨w1.heap.size + 1, 4, none⟩ = false := frozen_of_row wc _ 4 _ _ HS.out.sp
       have f5 : wc.frozen? ⟨w1.heap.size + 1, 5, none⟩ = false := frozen_of_row wc _ 5 _ _ HS.out.sp
       have f6 : wc.frozen? ⟨w1.heap.size + 1, 6, none⟩ = false := frozen_of_row wc _ 6 _ _ HS.out.sp
       have f7 : wc.frozen? ⟨w1.heap.size + 1, 7, none⟩ = false := frozen_of_row wc _ 7 _ _ HS.out.sp
       have f8 : wc.frozen? ⟨w1.heap.size + 1, 8, none⟩ = false := frozen_of_row wc _ 8 _ _ HS.out.sp
       have gz : w1.heap.size + 1 < wc.heap.size := HS.out.size
       have hne : wc.heap.size ≠ w1.heap.size + 1 := by omega
       go_upto_region 18 with fail
       go_cut [12] (fun s12 wx => ∃ N2 : Nat, s12 = .pointer (some ⟨N2, 0, none⟩) ∧ SpR w w1.heap.size s0 s1 s2 s3 b m F ST EN GW wx ∧ w1.heap.size + 1 < N2 ∧ wx.heap[N2]? = some (.cells #[.bool b, .int .u32 m, .int .i64 F, .bool b, .int .u32 m, .bool b, .int .u32 L, .bool false, .int .u32 0] 63 (0, 0)))
       case first =>
        go_region_held3 (fun w' => w'.cell? ⟨w1.heap.size + 1, 0, none⟩ = some (.bool b) ∧ w'.cell? ⟨w1.heap.size + 1, 1, none⟩ = some (.int .u32 m) ∧ w'.cell? ⟨w1.heap.size + 1, 2, none⟩ = some (.int .i64 F) ∧ w'.cell? ⟨w1.heap.size + 1, 3, none⟩ = some (.bool ST.six) ∧ w'.cell? ⟨w1.heap.size + 1, 4, none⟩ = some (.int .u32 ST.n) ∧ w'.cell? ⟨w1.heap.size + 1, 5, none⟩ = some (.bool EN.six) ∧ w'.cell? ⟨w1.heap.size + 1, 6, none⟩ = some (.int .u32 EN.n) ∧ w'.cell? ⟨w1.heap.size + 1, 7, none⟩ = some (.bool GW.six) ∧ w'.cell? ⟨w1.heap.size + 1, 8, none⟩ = some (.int .u32 GW.n)) (go_keep) (first | (go_at_call 48; refine (HLAST.out _ _ _ _).mono ?_; rintro e w5 ⟨rfl, hb5⟩; have HNEW := zh (row_on hb5 (heap_alloc_new _ _)); have n0 : w5.cell? ⟨wc.heap.size, 0, none⟩ = some (.bool false) := cell_of_row w5 _ 0 _ _ _ HNEW.out; have n1 : w5.cell? ⟨wc.heap.size, 1, none⟩ = some (.int .u32 0) := cell_of_row w5 _ 1 _ _ _ HNEW.out; have n2 : w5.cell? ⟨wc.heap.size, 2, none⟩ = some (.int .i64 0) := cell_of_row w5 _ 2 _ _ _ HNEW.out; have n3 : w5.cell? ⟨wc.heap.size, 3, none⟩ = some (.bool false) := cell_of_row w5 _ 3 _ _ _ HNEW.out; have n4 : w5.cell? ⟨wc.heap.size, 4, none⟩ = some (.int .u32 0) := cell_of_row w5 _ 4 _ _ _ HNEW.out; have n5 : w5.cell? ⟨wc.heap.size, 5, none⟩ = some (.bool false) := cell_of_row w5 _ 5 _ _ _ HNEW.out; have n6 : w5.cell? ⟨wc.heap.size, 6, none⟩ = some (.int .u32 0) := cell_of_row w5 _ 6 _ _ _ HNEW.out; have n7 : w5.cell? ⟨wc.heap.size, 7, none⟩ = some (.bool false) := cell_of_row w5 _ 7 _ _ _ HNEW.out; have n8 : w5.cell? ⟨wc.heap.size, 8, none⟩ = some (.int .u32 0) := cell_of_row w5 _ 8 _ _ _ HNEW.out; have o0 : w5.frozen? ⟨wc.heap.size, 0, none⟩ = false := frozen_of_row w5 _ 0 _ _ HNEW.out; have o1 : w5.frozen? ⟨wc.heap.size, 1, none⟩ = false := frozen_of_row w5 _ 1 _ _ HNEW.out; have o2 : w5.frozen? ⟨wc.heap.size, 2, none⟩ = false := frozen_of_row w5 _ 2 _ _ HNEW.out; have o3 : w5.frozen? ⟨wc.heap.size, 3, none⟩ = false := frozen_of_row w5 _ 3 _ _ HNEW.out; have o4 : w5.frozen? ⟨wc.heap.size, 4, none⟩ = false := frozen_of_row w5 _ 4 _ _ HNEW.out; have o5 : w5.frozen? ⟨wc.heap.size, 5, none⟩ = false := frozen_of_row w5 _ 5 _ _ HNEW.out; have o6 : w5.frozen? ⟨wc.heap.size, 6, none⟩ = false := frozen_of_row w5 _ 6 _ _ HNEW.out; have o7 : w5.frozen? ⟨wc.heap.size, 7, none⟩ = false := frozen_of_row w5 _ 7 _ _ HNEW.out; have o8 : w5.frozen? ⟨wc.heap.size, 8, none⟩ = false := frozen_of_row w5 _ 8 _ _ HNEW.out; have nlt : wc.heap.size < w5.heap.size := (Array.getElem?_eq_some_iff.1 HNEW.out).1; have HS5 := zh (HS.out.on (below_tr ((below_drewN (Below.refl _ _) 1).alloc (Nat.le_refl _) _) hb5)); clear hb5; have e0 : w5.cell? ⟨w1.heap.size, 0, none⟩ = some (.bool b) := cell_of_row w5 _ 0 _ _ _ HS5.out.ad; have e1 : w5.cell? ⟨w1.heap.size, 1, none⟩ = some (.int .u32 m) := cell_of_row w5 _ 1 _ _ _ HS5.out.ad; have k0 : w5.cell? ⟨w1.heap.size + 1, 0, none⟩ = some (.bool b) := cell_of_row w5 _ 0 _ _ _ HS5.out.sp; have k1 : w5.cell? ⟨w1.heap.size + 1, 1, none⟩ = some (.int .u32 m) := cell_of_row w5 _ 1 _ _ _ HS5.out.sp; have k2 : w5.cell? ⟨w1.heap.size + 1, 2, none⟩ = some (.int .i64 F) := cell_of_row w5 _ 2 _ _ _ HS5.out.sp; have k3 : w5.cell? ⟨w1.heap.size + 1, 3, none⟩ = some (.bool ST.six) := cell_of_row w5 _ 3 _ _ _ HS5.out.sp; have k4 : w5.cell? ⟨w1.heap.size + 1, 4, none⟩ = some (.int .u32 ST.n) := cell_of_row w5 _ 4 _ _ _ HS5.out.sp; have k5 : w5.cell? ⟨w1.heap.size + 1, 5, none⟩ = some (.bool EN.six) := cell_of_row w5 _ 5 _ _ _ HS5.out.sp; have k6 : w5.cell? ⟨w1.heap.size + 1, 6, none⟩ = some (.int .u32 EN.n) := cell_of_row w5 _ 6 _ _ _ HS5.out.sp; have k7 : w5.cell? ⟨w1.heap.size + 1, 7, none⟩ = some (.bool GW.six) := cell_of_row w5 _ 7 _ _ _ HS5.out.sp; have k8 : w5.cell? ⟨w1.heap.size + 1, 8, none⟩ = some (.int .u32 GW.n) := cell_of_row w5 _ 8 _ _ _ HS5.out.sp; have z3 : w5.frozen? ⟨w1.heap.size + 1, 3, none⟩ = false := frozen_of_row w5 _ 3 _ _ HS5.out.sp; have z4 : w5.frozen? ⟨w1.heap.size + 1, 4, none⟩ = false := frozen_of_row w5 _ 4 _ _ HS5.out.sp; have z5 : w5.frozen? ⟨w1.heap.size + 1, 5, none⟩ = false := frozen_of_row w5 _ 5 _ _ HS5.out.sp; have z6 : w5.frozen? ⟨w1.heap.size + 1, 6, none⟩ = false := frozen_of_row w5 _ 6 _ _ HS5.out.sp; have z7 : w5.frozen? ⟨w1.heap.size + 1, 7, none⟩ = false := frozen_of_row w5 _ 7 _ _ HS5.out.sp; have z8 : w5.frozen? ⟨w1.heap.size + 1, 8, none⟩ = false := frozen_of_row w5 _ 8 _ _ HS5.out.sp; have kz : w1.heap.size + 1 < w5.heap.size := HS5.out.size) | (go_at_call 48; refine (HLAST.out _ _ _ _).mono ?_; rintro e w5 ⟨rfl, hb5⟩; have HS5 := zh (HS.out.on (below_tr (below_drewN (Below.refl _ _) 1) hb5)); clear hb5; have e0 : w5.cell? ⟨w1.heap.size, 0, none⟩ = some (.bool b) := cell_of_row w5 _ 0 _ _ _ HS5.out.ad; have e1 : w5.cell? ⟨w1.heap.size, 1, none⟩ = some (.int .u32 m) := cell_of_row w5 _ 1 _ _ _ HS5.out.ad; have k0 : w5.cell? ⟨w1.heap.size + 1, 0, none⟩ = some (.bool b) := cell_of_row w5 _ 0 _ _ _ HS5.out.sp; have k1 : w5.cell? ⟨w1.heap.size + 1, 1, none⟩ = some (.int .u32 m) := cell_of_row w5 _ 1 _ _ _ HS5.out.sp; have k2 : w5.cell? ⟨w1.heap.size + 1, 2, none⟩ = some (.int .i64 F) := cell_of_row w5 _ 2 _ _ _ HS5.out.sp; have k3 : w5.cell? ⟨w1.heap.size + 1, 3, none⟩ = some (.bool ST.six) := cell_of_row w5 _ 3 _ _ _ HS5.out.sp; have k4 : w5.cell? ⟨w1.heap.size + 1, 4, none⟩ = some (.int .u32 ST.n) := cell_of_row w5 _ 4 _ _ _ HS5.out.sp; have k5 : w5.cell? ⟨w1.heap.size + 1, 5, none⟩ = some (.bool EN.six) := cell_of_row w5 _ 5 _ _ _ HS5.out.sp; have k6 : w5.cell? ⟨w1.heap.size + 1, 6, none⟩ = some (.int .u32 EN.n) := cell_of_row w5 _ 6 _ _ _ HS5.out.sp; have k7 : w5.cell? ⟨w1.heap.size + 1, 7, none⟩ = some (.bool GW.six) := cell_of_row w5 _ 7 _ _ _ HS5.out.sp; have k8 : w5.cell? ⟨w1.heap.size + 1, 8, none⟩ = some (.int .u32 GW.n) := cell_of_row w5 _ 8 _ _ _ HS5.out.sp; have z3 : w5.frozen? ⟨w1.heap.size + 1, 3, none⟩ = false := frozen_of_row w5 _ 3 _ _ HS5.out.sp; have z4 : w5.frozen? ⟨w1.heap.size + 1, 4, none⟩ = false := frozen_of_row w5 _ 4 _ _ HS5.out.sp; have z5 : w5.frozen? ⟨w1.heap.size + 1, 5, none⟩ = false := frozen_of_row w5 _ 5 _ _ HS5.out.sp; have z6 : w5.frozen? ⟨w1.heap.size + 1, 6, none⟩ = false := frozen_of_row w5 _ 6 _ _ HS5.out.sp; have z7 : w5.frozen? ⟨w1.heap.size + 1, 7, none⟩ = false := frozen_of_row w5 _ 7 _ _ HS5.out.sp; have z8 : w5.frozen? ⟨w1.heap.size + 1, 8, none⟩ = false := frozen_of_row w5 _ 8 _ _ HS5.out.sp; have kz : w1.heap.size + 1 < w5.heap.size := HS5.out.size))
        all_goals go_wp2_with fail
        all_goals go_meet
        ·exact ⟨_, rfl, HS5.out.on ((Below.refl _ _).alloc (Nat.le_refl _) _), kz, heap_alloc_new _ _⟩
        ·refine ⟨_, rfl, ?_, gz, ?_⟩
         ·repeat refine SpR.far ?_ _ gz _ _
          exact HS5.out
         ·exact xV HNEW.out
       case rest =>
        obtain ⟨N2, rfl, hcs, hN2, hrow⟩ := hcut
        have HS := zh hcs
        have HW := zh hrow
        clear hcs hrow
        have g0 : wc.cell? ⟨w1.heap.size + 1, 0, none⟩ = some (.bool b) := cell_of_row wc _ 0 _ _ _ HS.out.sp
        have g1 : wc.cell? ⟨w1.heap.size + 1, 1, none⟩ = some (.int .u32 m) := cell_of_row wc _ 1 _ _ _ HS.out.sp
        have g2 : wc.cell? ⟨w1.heap.size + 1, 2, none⟩ = some (.int .i64 F) := cell_of_row wc _ 2 _ _ _ HS.out.sp
        have g3 : wc.cell? ⟨w1.heap.size + 1, 3, none⟩ = some (.bool ST.six) := cell_of_row wc _ 3 _ _ _ HS.out.sp
        have g4 : wc.cell? ⟨w1.heap.size + 1, 4, none⟩ = some (.int .u32 ST.n) := cell_of_row wc _ 4 _ _ _ HS.out.sp
        have g5 : wc.cell? ⟨w1.heap.size + 1, 5, none⟩ = some (.bool EN.six) := cell_of_row wc _ 5 _ _ _ HS.out.sp
        have g6 : wc.cell? ⟨w1.heap.size + 1, 6, none⟩ = some (.int .u32 EN.n) := cell_of_row wc _ 6 _ _ _ HS.out.sp
        have g7 : wc.cell? ⟨w1.heap.size + 1, 7, none⟩ = some (.bool GW.six) := cell_of_row wc _ 7 _ _ _ HS.out.sp
        have g8 : wc.cell? ⟨w1.heap.size + 1, 8, none⟩ = some (.int .u32 GW.n) := cell_of_row wc _ 8 _ _ _ HS.out.sp
        have gz : w1.heap.size + 1 < wc.heap.size := HS.out.size
        have h0 : wc.cell? ⟨N2, 0, none⟩ = some (.bool b) := cell_of_row wc _ 0 _ _ _ HW.out
        have h1 : wc.cell? ⟨N2, 1, none⟩ = some (.int .u32 m) := cell_of_row wc _ 1 _ _ _ HW.out
        have h2 : wc.cell? ⟨N2, 2, none⟩ = some (.int .i64 F) := cell_of_row wc _ 2 _ _ _ HW.out
        have h3 : wc.cell? ⟨N2, 3, none⟩ = some (.bool b) := cell_of_row wc _ 3 _ _ _ HW.out
        have h4 : wc.cell? ⟨N2, 4, none⟩ = some (.int .u32 m) := cell_of_row wc _ 4 _ _ _ HW.out
        have h5 : wc.cell? ⟨N2, 5, none⟩ = some (.bool b) := cell_of_row wc _ 5 _ _ _ HW.out
        have h6 : wc.cell? ⟨N2, 6, none⟩ = some (.int .u32 L) := cell_of_row wc _ 6 _ _ _ HW.out
        have h7 : wc.cell? ⟨N2, 7, none⟩ = some (.bool false) := cell_of_row wc _ 7 _ _ _ HW.out
        have h8 : wc.cell? ⟨N2, 8, none⟩ = some (.int .u32 0) := cell_of_row wc _ 8 _ _ _ HW.out
        have hz : N2 < wc.heap.size := (Array.getElem?_eq_some_iff.1 HW.out).1
        have r0 : wc.cell? ⟨w.heap.size + 1, 0, none⟩ = some (.bool false) := cell_of_row wc _ 0 _ _ _ HS.out.res
        have r1 : wc.cell? ⟨w.heap.size + 1, 1, none⟩ = some (.int .u32 0) := cell_of_row wc _ 1 _ _ _ HS.out.res
        have r2 : wc.cell? ⟨w.heap.size + 1, 2, none⟩ = some (.int .i64 0) := cell_of_row wc _ 2 _ _ _ HS.out.res
        have r3 : wc.cell? ⟨w.heap.size + 1, 3, none⟩ = some (.bool false) := cell_of_row wc _ 3 _ _ _ HS.out.res
        have r4 : wc.cell? ⟨w.heap.size + 1, 4, none⟩ = some (.int .u32 0) := cell_of_row wc _ 4 _ _ _ HS.out.res
        have r5 : wc.cell? ⟨w.heap.size + 1, 5, none⟩ = some (.bool false) := cell_of_row wc _ 5 _ _ _ HS.out.res
        have r6 : wc.cell? ⟨w.heap.size + 1, 6, none⟩ = some (.int .u32 0) := cell_of_row wc _ 6 _ _ _ HS.out.res
        have r7 : wc.cell? ⟨w.heap.size + 1, 7, none⟩ = some (.bool false) := cell_of_row wc _ 7 _ _ _ HS.out.res
        have r8 : wc.cell? ⟨w.heap.size + 1, 8, none⟩ = some (.int .u32 0) := cell_of_row wc _ 8 _ _ _ HS.out.res
        have q0 : wc.frozen? ⟨w.heap.size + 1, 0, none⟩ = false := frozen_of_row wc _ 0 _ _ HS.out.res
        have q1 : wc.frozen? ⟨w.heap.size + 1, 1, none⟩ = false := frozen_of_row wc _ 1 _ _ HS.out.res
        have q2 : wc.frozen? ⟨w.heap.size + 1, 2, none⟩ = false := frozen_of_row wc _ 2 _ _ HS.out.res
        have q3 : wc.frozen? ⟨w.heap.size + 1, 3, none⟩ = false := frozen_of_row wc _ 3 _ _ HS.out.res
        have q4 : wc.frozen? ⟨w.heap.size + 1, 4, none⟩ = false := frozen_of_row wc _ 4 _ _ HS.out.res
        have q5 : wc.frozen? ⟨w.heap.size + 1, 5, none⟩ = false := frozen_of_row wc _ 5 _ _ HS.out.res
        have q6 : wc.frozen? ⟨w.heap.size + 1, 6, none⟩ = false := frozen_of_row wc _ 6 _ _ HS.out.res
        have q7 : wc.frozen? ⟨w.heap.size + 1, 7, none⟩ = false := frozen_of_row wc _ 7 _ _ HS.out.res
        have q8 : wc.frozen? ⟨w.heap.size + 1, 8, none⟩ = false := frozen_of_row wc _ 8 _ _ HS.out.res
        have hlt2 := HS.out.lt
        have ne1 : w.heap.size ≠ w1.heap.size := by omega
        have ne2 : w.heap.size + 1 ≠ N2 := by omega
        have hA : (⟨b, m⟩ : Ad) = R.a := by rw [HBS.out, HFM.out.2]
        have HV := zh (show (⟨b, m⟩ : Ad) = R.a ∧ (F : Int) = R.free ∧ ST = zB R ∧ EN = zC R ∧ GW = zE R from by
         refine ⟨hA, by rw [HFM.out.1], ?_, ?_, ?_⟩
         ·rw [HST.out]; unfold zB Ad.up; rw [← hA]
         ·rw [HEN.out]; unfold zC Ad.endOf Ad.last Ad.down; rw [← hA, ← HFM.out.1, HLV.out]; cases b <;> rfl
         ·rw [HGW.out]; unfold zE Ad.up; rw [← hA])
        have HOKE := zh (show okR R = (hasB ⟨b, m⟩ ⟨b, m⟩ ⟨b, L⟩ ST && hasB ⟨b, m⟩ ⟨b, m⟩ ⟨b, L⟩ EN && decide (ST.n ≤ EN.n)) from by
         rw [zhG HNET.out.1 HNET.out.2 HG.out, ← HV.out.2.2.1, ← HV.out.2.2.2.1, ← hA, ← HFM.out.1]
         have : (⟨b, m⟩ : Ad).last F = ⟨b, L⟩ := by rw [HLV.out]; rfl
         rw [this])
        clear hA
        obtain ⟨x1, hx1⟩ : ∃ x : Bool, x = hasB ⟨b, m⟩ ⟨b, m⟩ ⟨b, L⟩ ST := ⟨_, rfl⟩
        obtain ⟨x2, hx2⟩ : ∃ x : Bool, x = hasB ⟨b, m⟩ ⟨b, m⟩ ⟨b, L⟩ EN := ⟨_, rfl⟩
        have HH1 := zh (show ∀ w, Calls Tryz.prog 47 #[.agg #[.bool b, .int .u32 m, .int .i64 F, .bool b, .int .u32 m, .bool b, .int .u32 L, .bool false, .int .u32 0], .agg #[.bool ST.six, .int .u32 ST.n]] w (BelowPost w (.bool x1)) from fun w => by rw [hx1]; exact HHAS.out ST w)
        have HH2 := zh (show ∀ w, Calls Tryz.prog 47 #[.agg #[.bool b, .int .u32 m, .int .i64 F, .bool b, .int .u32 m, .bool b, .int .u32 L, .bool false, .int .u32 0], .agg #[.bool EN.six, .int .u32 EN.n]] w (BelowPost w (.bool x2)) from fun w => by rw [hx2]; exact HHAS.out EN w)
        have HX := zh (show okR R = (x1 && x2 && decide (ST.n ≤ EN.n)) from by rw [hx1, hx2]; exact HOKE.out)
        clear hx1 hx2
        go_upto_region 19 with fail
        go_cut [3] (fun s3 wx => s3 = .bool (okR R) ∧ wx.heap[w.heap.size + 1]? = some (.cells #[.bool b, .int .u32 m, .int .i64 F, .bool ST.six, .int .u32 ST.n, .bool EN.six, .int .u32 EN.n, .bool GW.six, .int .u32 GW.n] 63 (0, 0)) ∧ Below w.heap.size w wx)
        case rest =>
         obtain ⟨rfl, hres, hbel⟩ := hcut
         have HBEL := zh hbel
         clear hbel g0 g1 g2 g3 g4 g5 g6 g7 g8 h0 h1 h2 h3 h4 h5 h6 h7 h8 r0 r1 r2 r3 r4 r5 r6 r7 r8 q0 q1 q2 q3 q4 q5 q6 q7 q8
         have r0 := cell_of_row _ _ 0 _ _ _ hres
         have r1 := cell_of_row _ _ 1 _ _ _ hres
         have r2 := cell_of_row _ _ 2 _ _ _ hres
         have r3 := cell_of_row _ _ 3 _ _ _ hres
         have r4 := cell_of_row _ _ 4 _ _ _ hres
         have r5 := cell_of_row _ _ 5 _ _ _ hres
         have r6 := cell_of_row _ _ 6 _ _ _ hres
         have r7 := cell_of_row _ _ 7 _ _ _ hres
         have r8 := cell_of_row _ _ 8 _ _ _ hres
         clear hres
         go_wp
         refine bodyPost_ret (v := .tuple #[spanv ⟨b, m⟩ F ST EN GW, .bool (okR R)]) (by simp [spanv, results, Tryz.results26, go_sem, r0, r1, r2, r3, r4, r5, r6, r7, r8]) rfl ⟨⟨b, m⟩, F, ST, EN, GW, rfl, (fun _ => HV.out), HBEL.out⟩
        case first =>
         cases x1 with
         | false =>
          have HOK := zh (show okR R = false from by rw [HX.out]; rfl)
          refine wp_region_held_drew (S := (fun w' => w'.cell? ⟨w1.heap.size + 1, 0, none⟩ = some (.bool b) ∧ w'.cell? ⟨w1.heap.size + 1, 1, none⟩ = some (.int .u32 m) ∧ w'.cell? ⟨w1.heap.size + 1, 2, none⟩ = some (.int .i64 F) ∧ w'.cell? ⟨w1.heap.size + 1, 3, none⟩ = some (.bool ST.six) ∧ w'.cell? ⟨w1.heap.size + 1, 4, none⟩ = some (.int .u32 ST.n) ∧ w'.cell? ⟨w1.heap.size + 1, 5, none⟩ = some (.bool EN.six) ∧ w'.cell? ⟨w1.heap.size + 1, 6, none⟩ = some (.int .u32 EN.n) ∧ w'.cell? ⟨w1.heap.size + 1, 7, none⟩ = some (.bool GW.six) ∧ w'.cell? ⟨w1.heap.size + 1, 8, none⟩ = some (.int .u32 GW.n) ∧ w'.cell? ⟨N2, 0, none⟩ = some (.bool b) ∧ w'.cell? ⟨N2, 1, none⟩ = some (.int .u32 m) ∧ w'.cell? ⟨N2, 2, none⟩ = some (.int .i64 F) ∧ w'.cell? ⟨N2, 3, none⟩ = some (.bool b) ∧ w'.cell? ⟨N2, 4, none⟩ = some (.int .u32 m) ∧ w'.cell? ⟨N2, 5, none⟩ = some (.bool b) ∧ w'.cell? ⟨N2, 6, none⟩ = some (.int .u32 L) ∧ w'.cell? ⟨N2, 7, none⟩ = some (.bool false) ∧ w'.cell? ⟨N2, 8, none⟩ = some (.int .u32 0))) (by kernel_rfl) ?_ (fun hHeld => ?_)
          ·go_keep
          refine zA 0 118 ?v0x16 (by rfl) (by kernel_rfl) (by kernel_rfl) (by kernel_rfl) (by kernel_rfl) (fun _ _ _ _ h => h) (by kernel_rfl) ?hy0x16 (by assumption) ?nx0x16
          case hy0x16 =>
           intro w' hSw
           go_simp
           try with_reducible rfl
          simp only [sA, sB, sC]
          refine zA 1 119 ?v1x17 (by rfl) (by kernel_rfl) (by kernel_rfl) (by kernel_rfl) (by kernel_rfl) (fun _ _ _ _ h => h) (by kernel_rfl) ?hy1x17 (by assumption) ?nx1x17
          case hy1x17 =>
           intro w' hSw
           go_simp
           try with_reducible rfl
          simp only [sA, sB, sC]
          refine zA 2 120 ?v2x18 (by rfl) (by kernel_rfl) (by kernel_rfl) (by kernel_rfl) (by kernel_rfl) (fun _ _ _ _ h => h) (by kernel_rfl) ?hy2x18 (by assumption) ?nx2x18
          case hy2x18 =>
           intro w' hSw
           go_simp
           try with_reducible rfl
          simp only [sA, sB, sC]
          refine zA 3 121 ?v3x19 (by rfl) (by kernel_rfl) (by kernel_rfl) (by kernel_rfl) (by kernel_rfl) (fun _ _ _ _ h => h) (by kernel_rfl) ?hy3x19 (by assumption) ?nx3x19
          case hy3x19 =>
           intro w' hSw
           go_simp
           try with_reducible rfl
          simp only [sA, sB, sC]
          refine wpAnyH_ready (rs := [4]) (by kernel_rfl) (by simp) (AllReadyH.cons (o := _) rfl (fun K hK => ?_) AllReadyH.nil)
          go_simp
          go_at_call_of 47 (Value.agg #[.bool ST.six, .int .u32 ST.n])
          refine (HH1.out _).mono ?_
          rintro e w5 ⟨rfl, hbw5⟩
          have hqw5 := below_tr (below_drewN (Below.refl _ _) _) hbw5
          have HS5 := zh (HS.out.on hqw5)
          have HW5 := zh (row_on hqw5 HW.out)
          clear hqw5 hbw5
          have kw50 : w5.cell? ⟨w1.heap.size + 1, 0, none⟩ = some (.bool b) := cell_of_row w5 _ 0 _ _ _ HS5.out.sp
          have kw51 : w5.cell? ⟨w1.heap.size + 1, 1, none⟩ = some (.int .u32 m) := cell_of_row w5 _ 1 _ _ _ HS5.out.sp
          have kw52 : w5.cell? ⟨w1.heap.size + 1, 2, none⟩ = some (.int .i64 F) := cell_of_row w5 _ 2 _ _ _ HS5.out.sp
          have kw53 : w5.cell? ⟨w1.heap.size + 1, 3, none⟩ = some (.bool ST.six) := cell_of_row w5 _ 3 _ _ _ HS5.out.sp
          have kw54 : w5.cell? ⟨w1.heap.size + 1, 4, none⟩ = some (.int .u32 ST.n) := cell_of_row w5 _ 4 _ _ _ HS5.out.sp
          have kw55 : w5.cell? ⟨w1.heap.size + 1, 5, none⟩ = some (.bool EN.six) := cell_of_row w5 _ 5 _ _ _ HS5.out.sp
          have kw56 : w5.cell? ⟨w1.heap.size + 1, 6, none⟩ = some (.int .u32 EN.n) := cell_of_row w5 _ 6 _ _ _ HS5.out.sp
          have kw57 : w5.cell? ⟨w1.heap.size + 1, 7, none⟩ = some (.bool GW.six) := cell_of_row w5 _ 7 _ _ _ HS5.out.sp
          have kw58 : w5.cell? ⟨w1.heap.size + 1, 8, none⟩ = some (.int .u32 GW.n) := cell_of_row w5 _ 8 _ _ _ HS5.out.sp
          have kw5z : w1.heap.size + 1 < w5.heap.size := HS5.out.size
          have hw50 : w5.cell? ⟨N2, 0, none⟩ = some (.bool b) := cell_of_row w5 _ 0 _ _ _ HW5.out
          have hw51 : w5.cell? ⟨N2, 1, none⟩ = some (.int .u32 m) := cell_of_row w5 _ 1 _ _ _ HW5.out
          have hw52 : w5.cell? ⟨N2, 2, none⟩ = some (.int .i64 F) := cell_of_row w5 _ 2 _ _ _ HW5.out
          have hw53 : w5.cell? ⟨N2, 3, none⟩ = some (.bool b) := cell_of_row w5 _ 3 _ _ _ HW5.out
          have hw54 : w5.cell? ⟨N2, 4, none⟩ = some (.int .u32 m) := cell_of_row w5 _ 4 _ _ _ HW5.out
          have hw55 : w5.cell? ⟨N2, 5, none⟩ = some (.bool b) := cell_of_row w5 _ 5 _ _ _ HW5.out
          have hw56 : w5.cell? ⟨N2, 6, none⟩ = some (.int .u32 L) := cell_of_row w5 _ 6 _ _ _ HW5.out
          have hw57 : w5.cell? ⟨N2, 7, none⟩ = some (.bool false) := cell_of_row w5 _ 7 _ _ _ HW5.out
          have hw58 : w5.cell? ⟨N2, 8, none⟩ = some (.int .u32 0) := cell_of_row w5 _ 8 _ _ _ HW5.out
          have hw5z : N2 < w5.heap.size := (Array.getElem?_eq_some_iff.1 HW5.out).1
          have rw50 : w5.cell? ⟨w.heap.size + 1, 0, none⟩ = some (.bool false) := cell_of_row w5 _ 0 _ _ _ HS5.out.res
          have rw51 : w5.cell? ⟨w.heap.size + 1, 1, none⟩ = some (.int .u32 0) := cell_of_row w5 _ 1 _ _ _ HS5.out.res
          have rw52 : w5.cell? ⟨w.heap.size + 1, 2, none⟩ = some (.int .i64 0) := cell_of_row w5 _ 2 _ _ _ HS5.out.res
          have rw53 : w5.cell? ⟨w.heap.size + 1, 3, none⟩ = some (.bool false) := cell_of_row w5 _ 3 _ _ _ HS5.out.res
          have rw54 : w5.cell? ⟨w.heap.size + 1, 4, none⟩ = some (.int .u32 0) := cell_of_row w5 _ 4 _ _ _ HS5.out.res
          have rw55 : w5.cell? ⟨w.heap.size + 1, 5, none⟩ = some (.bool false) := cell_of_row w5 _ 5 _ _ _ HS5.out.res
          have rw56 : w5.cell? ⟨w.heap.size + 1, 6, none⟩ = some (.int .u32 0) := cell_of_row w5 _ 6 _ _ _ HS5.out.res
          have rw57 : w5.cell? ⟨w.heap.size + 1, 7, none⟩ = some (.bool false) := cell_of_row w5 _ 7 _ _ _ HS5.out.res
          have rw58 : w5.cell? ⟨w.heap.size + 1, 8, none⟩ = some (.int .u32 0) := cell_of_row w5 _ 8 _ _ _ HS5.out.res
          have qw50 : w5.frozen? ⟨w.heap.size + 1, 0, none⟩ = false := frozen_of_row w5 _ 0 _ _ HS5.out.res
          have qw51 : w5.frozen? ⟨w.heap.size + 1, 1, none⟩ = false := frozen_of_row w5 _ 1 _ _ HS5.out.res
          have qw52 : w5.frozen? ⟨w.heap.size + 1, 2, none⟩ = false := frozen_of_row w5 _ 2 _ _ HS5.out.res
          have qw53 : w5.frozen? ⟨w.heap.size + 1, 3, none⟩ = false := frozen_of_row w5 _ 3 _ _ HS5.out.res
          have qw54 : w5.frozen? ⟨w.heap.size + 1, 4, none⟩ = false := frozen_of_row w5 _ 4 _ _ HS5.out.res
          have qw55 : w5.frozen? ⟨w.heap.size + 1, 5, none⟩ = false := frozen_of_row w5 _ 5 _ _ HS5.out.res
          have qw56 : w5.frozen? ⟨w.heap.size + 1, 6, none⟩ = false := frozen_of_row w5 _ 6 _ _ HS5.out.res
          have qw57 : w5.frozen? ⟨w.heap.size + 1, 7, none⟩ = false := frozen_of_row w5 _ 7 _ _ HS5.out.res
          have qw58 : w5.frozen? ⟨w.heap.size + 1, 8, none⟩ = false := frozen_of_row w5 _ 8 _ _ HS5.out.res
          refine hK.out _ _ ?_ (fun hHeld => ?_)
          ·go_keep
          clear hK K
          try simp only [Act.put, sA, sB, sC]
          refine zA 5 123 ?v5x20 (by rfl) (by kernel_rfl) (by kernel_rfl) (by kernel_rfl) (by kernel_rfl) (fun _ _ _ _ h => h) (by kernel_rfl) ?hy5x20 (by assumption) ?nx5x20
          case hy5x20 =>
           intro w' hSw
           go_simp
           try with_reducible rfl
          simp only [sA, sB, sC]
          refine zL 6 124 (by rfl) (by kernel_rfl) (by kernel_rfl) (by kernel_rfl) (by kernel_rfl) (fun _ _ _ _ h => h) (by kernel_rfl) (by assumption) ?nx6x21
          simp only [sA, sB, sC]
          refine zL 7 125 (by rfl) (by kernel_rfl) (by kernel_rfl) (by kernel_rfl) (by kernel_rfl) (fun _ _ _ _ h => h) (by kernel_rfl) (by assumption) ?nx7x22
          simp only [sA, sB, sC]
          refine zL 8 126 (by rfl) (by kernel_rfl) (by kernel_rfl) (by kernel_rfl) (by kernel_rfl) (fun _ _ _ _ h => h) (by kernel_rfl) (by assumption) ?nx8x23
          simp only [sA, sB, sC]
          refine zL 9 127 (by rfl) (by kernel_rfl) (by kernel_rfl) (by kernel_rfl) (by kernel_rfl) (fun _ _ _ _ h => h) (by kernel_rfl) (by assumption) ?nx9x24
          simp only [sA, sB, sC]
          refine zA 10 128 ?v10x25 (by rfl) (by kernel_rfl) (by kernel_rfl) (by kernel_rfl) (by kernel_rfl) (fun _ _ _ _ h => h) (by kernel_rfl) ?hy10x25 (by assumption) ?nx10x25
          case hy10x25 =>
           intro w' hSw
           go_simp
           try with_reducible rfl
          simp only [sA, sB, sC]
          refine zA 11 129 ?v11x26 (by rfl) (by kernel_rfl) (by kernel_rfl) (by kernel_rfl) (by kernel_rfl) (fun _ _ _ _ h => h) (by kernel_rfl) ?hy11x26 (by assumption) ?nx11x26
          case hy11x26 =>
           intro w' hSw
           go_simp
           try with_reducible rfl
          simp only [sA, sB, sC]
          refine zL 12 130 (by rfl) (by kernel_rfl) (by kernel_rfl) (by kernel_rfl) (by kernel_rfl) (fun _ _ _ _ h => h) (by kernel_rfl) (by assumption) ?nx12x27
          simp only [sA, sB, sC]
          refine zL 13 131 (by rfl) (by kernel_rfl) (by kernel_rfl) (by kernel_rfl) (by kernel_rfl) (fun _ _ _ _ h => h) (by kernel_rfl) (by assumption) ?nx13x28
          simp only [sA, sB, sC]
          refine zL 14 132 (by rfl) (by kernel_rfl) (by kernel_rfl) (by kernel_rfl) (by kernel_rfl) (fun _ _ _ _ h => h) (by kernel_rfl) (by assumption) ?nx14x29
          simp only [sA, sB, sC]
          refine zL 15 133 (by rfl) (by kernel_rfl) (by kernel_rfl) (by kernel_rfl) (by kernel_rfl) (fun _ _ _ _ h => h) (by kernel_rfl) (by assumption) ?nx15x30
          simp only [sA, sB, sC]
          refine zL 16 134 (by rfl) (by kernel_rfl) (by kernel_rfl) (by kernel_rfl) (by kernel_rfl) (fun _ _ _ _ h => h) (by kernel_rfl) (by assumption) ?nx16x31
          simp only [sA, sB, sC]
          refine zL 17 135 (by rfl) (by kernel_rfl) (by kernel_rfl) (by kernel_rfl) (by kernel_rfl) (fun _ _ _ _ h => h) (by kernel_rfl) (by assumption) ?nx17x32
          simp only [sA, sB, sC]
          refine zL 18 136 (by rfl) (by kernel_rfl) (by kernel_rfl) (by kernel_rfl) (by kernel_rfl) (fun _ _ _ _ h => h) (by kernel_rfl) (by assumption) ?nx18x33
          simp only [sA, sB, sC]
          refine zA 19 137 ?v19x34 (by rfl) (by kernel_rfl) (by kernel_rfl) (by kernel_rfl) (by kernel_rfl) (fun _ _ _ _ h => h) (by kernel_rfl) ?hy19x34 (by assumption) ?nx19x34
          case hy19x34 =>
           intro w' hSw
           go_simp
           try with_reducible rfl
          simp only [sA, sB, sC]
          refine wpAnyH_ready (rs := [20]) (by kernel_rfl) (by simp) (AllReadyH.cons (o := _) rfl (fun K hK => ?_) AllReadyH.nil)
          go_simp
          refine hK.out _ _ ?_ (fun hHeld => ?_)
          ·go_keep
          clear hK K
          try simp only [Act.put, sA, sB, sC]
          refine zA 21 3 ?v21x35 (by rfl) (by kernel_rfl) (by kernel_rfl) (by kernel_rfl) (by kernel_rfl) (fun _ _ _ _ h => h) (by kernel_rfl) ?hy21x35 (by assumption) ?nx21x35
          case hy21x35 =>
           intro w' hSw
           go_simp
           try with_reducible rfl
          simp only [sA, sB, sC]
          refine wpAnyH_done (by kernel_rfl) ?_ _
          clear hHeld g0 g1 g2 g3 g4 g5 g6 g7 g8 gz h0 h1 h2 h3 h4 h5 h6 h7 h8 hz r0 q0 r1 q1 r2 q2 r3 q3 r4 q4 r5 q5 r6 q6 r7 q7 r8 q8 kw50 kw51 kw52 kw53 kw54 kw55 kw56 kw57 kw58 kw5z hw50 hw51 hw52 hw53 hw54 hw55 hw56 hw57 hw58 hw5z
          go_wp
          go_meet
          refine ⟨by rw [HOK.out], xV HS5.out.res, ?_⟩
          repeat refine Below.setCell ?_ (by simp) _
          exact HS5.out.below
         | true =>
          cases x2 with
          | false =>
           have HOK := zh (show okR R = false from by rw [HX.out]; rfl)
           refine wp_region_held_drew (S := (fun w' => w'.cell? ⟨w1.heap.size + 1, 0, none⟩ = some (.bool b) ∧ w'.cell? ⟨w1.heap.size + 1, 1, none⟩ = some (.int .u32 m) ∧ w'.cell? ⟨w1.heap.size + 1, 2, none⟩ = some (.int .i64 F) ∧ w'.cell? ⟨w1.heap.size + 1, 3, none⟩ = some (.bool ST.six) ∧ w'.cell? ⟨w1.heap.size + 1, 4, none⟩ = some (.int .u32 ST.n) ∧ w'.cell? ⟨w1.heap.size + 1, 5, none⟩ = some (.bool EN.six) ∧ w'.cell? ⟨w1.heap.size + 1, 6, none⟩ = some (.int .u32 EN.n) ∧ w'.cell? ⟨w1.heap.size + 1, 7, none⟩ = some (.bool GW.six) ∧ w'.cell? ⟨w1.heap.size + 1, 8, none⟩ = some (.int .u32 GW.n) ∧ w'.cell? ⟨N2, 0, none⟩ = some (.bool b) ∧ w'.cell? ⟨N2, 1, none⟩ = some (.int .u32 m) ∧ w'.cell? ⟨N2, 2, none⟩ = some (.int .i64 F) ∧ w'.cell? ⟨N2, 3, none⟩ = some (.bool b) ∧ w'.cell? ⟨N2, 4, none⟩ = some (.int .u32 m) ∧ w'.cell? ⟨N2, 5, none⟩ = some (.bool b) ∧ w'.cell? ⟨N2, 6, none⟩ = some (.int .u32 L) ∧ w'.cell? ⟨N2, 7, none⟩ = some (.bool false) ∧ w'.cell? ⟨N2, 8, none⟩ = some (.int .u32 0))) (by kernel_rfl) ?_ (fun hHeld => ?_)
           ·go_keep
           refine zA 0 118 ?v0x36 (by rfl) (by kernel_rfl) (by kernel_rfl) (by kernel_rfl) (by kernel_rfl) (fun _ _ _ _ h => h) (by kernel_rfl) ?hy0x36 (by assumption) ?nx0x36
           case hy0x36 =>
            intro w' hSw
            go_simp
            try with_reducible rfl
           simp only [sA, sB, sC]
           refine zA 1 119 ?v1x37 (by rfl) (by kernel_rfl) (by kernel_rfl) (by kernel_rfl) (by kernel_rfl) (fun _ _ _ _ h => h) (by kernel_rfl) ?hy1x37 (by assumption) ?nx1x37
           case hy1x37 =>
            intro w' hSw
            go_simp
            try with_reducible rfl
           simp only [sA, sB, sC]
           refine zA 2 120 ?v2x38 (by rfl) (by kernel_rfl) (by kernel_rfl) (by kernel_rfl) (by kernel_rfl) (fun _ _ _ _ h => h) (by kernel_rfl) ?hy2x38 (by assumption) ?nx2x38
           case hy2x38 =>
            intro w' hSw
            go_simp
            try with_reducible rfl
           simp only [sA, sB, sC]
           refine zA 3 121 ?v3x39 (by rfl) (by kernel_rfl) (by kernel_rfl) (by kernel_rfl) (by kernel_rfl) (fun _ _ _ _ h => h) (by kernel_rfl) ?hy3x39 (by assumption) ?nx3x39
           case hy3x39 =>
            intro w' hSw
            go_simp
            try with_reducible rfl
           simp only [sA, sB, sC]
           refine wpAnyH_ready (rs := [4]) (by kernel_rfl) (by simp) (AllReadyH.cons (o := _) rfl (fun K hK => ?_) AllReadyH.nil)
           go_simp
           go_at_call_of 47 (Value.agg #[.bool ST.six, .int .u32 ST.n])
           refine (HH1.out _).mono ?_
           rintro e w5 ⟨rfl, hbw5⟩
           have hqw5 := below_tr (below_drewN (Below.refl _ _) _) hbw5
           have HS5 := zh (HS.out.on hqw5)
           have HW5 := zh (row_on hqw5 HW.out)
           clear hqw5 hbw5
           have kw50 : w5.cell? ⟨w1.heap.size + 1, 0, none⟩ = some (.bool b) := cell_of_row w5 _ 0 _ _ _ HS5.out.sp
           have kw51 : w5.cell? ⟨w1.heap.size + 1, 1, none⟩ = some (.int .u32 m) := cell_of_row w5 _ 1 _ _ _ HS5.out.sp
           have kw52 : w5.cell? ⟨w1.heap.size + 1, 2, none⟩ = some (.int .i64 F) := cell_of_row w5 _ 2 _ _ _ HS5.out.sp
           have kw53 : w5.cell? ⟨w1.heap.size + 1, 3, none⟩ = some (.bool ST.six) := cell_of_row w5 _ 3 _ _ _ HS5.out.sp
           have kw54 : w5.cell? ⟨w1.heap.size + 1, 4, none⟩ = some (.int .u32 ST.n) := cell_of_row w5 _ 4 _ _ _ HS5.out.sp
           have kw55 : w5.cell? ⟨w1.heap.size + 1, 5, none⟩ = some (.bool EN.six) := cell_of_row w5 _ 5 _ _ _ HS5.out.sp
           have kw56 : w5.cell? ⟨w1.heap.size + 1, 6, none⟩ = some (.int .u32 EN.n) := cell_of_row w5 _ 6 _ _ _ HS5.out.sp
           have kw57 : w5.cell? ⟨w1.heap.size + 1, 7, none⟩ = some (.bool GW.six) := cell_of_row w5 _ 7 _ _ _ HS5.out.sp
           have kw58 : w5.cell? ⟨w1.heap.size + 1, 8, none⟩ = some (.int .u32 GW.n) := cell_of_row w5 _ 8 _ _ _ HS5.out.sp
           have kw5z : w1.heap.size + 1 < w5.heap.size := HS5.out.size
           have hw50 : w5.cell? ⟨N2, 0, none⟩ = some (.bool b) := cell_of_row w5 _ 0 _ _ _ HW5.out
           have hw51 : w5.cell? ⟨N2, 1, none⟩ = some (.int .u32 m) := cell_of_row w5 _ 1 _ _ _ HW5.out
           have hw52 : w5.cell? ⟨N2, 2, none⟩ = some (.int .i64 F) := cell_of_row w5 _ 2 _ _ _ HW5.out
           have hw53 : w5.cell? ⟨N2, 3, none⟩ = some (.bool b) := cell_of_row w5 _ 3 _ _ _ HW5.out
           have hw54 : w5.cell? ⟨N2, 4, none⟩ = some (.int .u32 m) := cell_of_row w5 _ 4 _ _ _ HW5.out
           have hw55 : w5.cell? ⟨N2, 5, none⟩ = some (.bool b) := cell_of_row w5 _ 5 _ _ _ HW5.out
           have hw56 : w5.cell? ⟨N2, 6, none⟩ = some (.int .u32 L) := cell_of_row w5 _ 6 _ _ _ HW5.out
           have hw57 : w5.cell? ⟨N2, 7, none⟩ = some (.bool false) := cell_of_row w5 _ 7 _ _ _ HW5.out
           have hw58 : w5.cell? ⟨N2, 8, none⟩ = some (.int .u32 0) := cell_of_row w5 _ 8 _ _ _ HW5.out
           have hw5z : N2 < w5.heap.size := (Array.getElem?_eq_some_iff.1 HW5.out).1
           have rw50 : w5.cell? ⟨w.heap.size + 1, 0, none⟩ = some (.bool false) := cell_of_row w5 _ 0 _ _ _ HS5.out.res
           have rw51 : w5.cell? ⟨w.heap.size + 1, 1, none⟩ = some (.int .u32 0) := cell_of_row w5 _ 1 _ _ _ HS5.out.res
           have rw52 : w5.cell? ⟨w.heap.size + 1, 2, none⟩ = some (.int .i64 0) := cell_of_row w5 _ 2 _ _ _ HS5.out.res
           have rw53 : w5.cell? ⟨w.heap.size + 1, 3, none⟩ = some (.bool false) := cell_of_row w5 _ 3 _ _ _ HS5.out.res
           have rw54 : w5.cell? ⟨w.heap.size + 1, 4, none⟩ = some (.int .u32 0) := cell_of_row w5 _ 4 _ _ _ HS5.out.res
           have rw55 : w5.cell? ⟨w.heap.size + 1, 5, none⟩ = some (.bool false) := cell_of_row w5 _ 5 _ _ _ HS5.out.res
           have rw56 : w5.cell? ⟨w.heap.size + 1, 6, none⟩ = some (.int .u32 0) := cell_of_row w5 _ 6 _ _ _ HS5.out.res
           have rw57 : w5.cell? ⟨w.heap.size + 1, 7, none⟩ = some (.bool false) := cell_of_row w5 _ 7 _ _ _ HS5.out.res
           have rw58 : w5.cell? ⟨w.heap.size + 1, 8, none⟩ = some (.int .u32 0) := cell_of_row w5 _ 8 _ _ _ HS5.out.res
           have qw50 : w5.frozen? ⟨w.heap.size + 1, 0, none⟩ = false := frozen_of_row w5 _ 0 _ _ HS5.out.res
           have qw51 : w5.frozen? ⟨w.heap.size + 1, 1, none⟩ = false := frozen_of_row w5 _ 1 _ _ HS5.out.res
           have qw52 : w5.frozen? ⟨w.heap.size + 1, 2, none⟩ = false := frozen_of_row w5 _ 2 _ _ HS5.out.res
           have qw53 : w5.frozen? ⟨w.heap.size + 1, 3, none⟩ = false := frozen_of_row w5 _ 3 _ _ HS5.out.res
           have qw54 : w5.frozen? ⟨w.heap.size + 1, 4, none⟩ = false := frozen_of_row w5 _ 4 _ _ HS5.out.res
           have qw55 : w5.frozen? ⟨w.heap.size + 1, 5, none⟩ = false := frozen_of_row w5 _ 5 _ _ HS5.out.res
           have qw56 : w5.frozen? ⟨w.heap.size + 1, 6, none⟩ = false := frozen_of_row w5 _ 6 _ _ HS5.out.res
           have qw57 : w5.frozen? ⟨w.heap.size + 1, 7, none⟩ = false := frozen_of_row w5 _ 7 _ _ HS5.out.res
           have qw58 : w5.frozen? ⟨w.heap.size + 1, 8, none⟩ = false := frozen_of_row w5 _ 8 _ _ HS5.out.res
           refine hK.out _ _ ?_ (fun hHeld => ?_)
           ·go_keep
           clear hK K
           try simp only [Act.put, sA, sB, sC]
           refine zA 5 123 ?v5x40 (by rfl) (by kernel_rfl) (by kernel_rfl) (by kernel_rfl) (by kernel_rfl) (fun _ _ _ _ h => h) (by kernel_rfl) ?hy5x40 (by assumption) ?nx5x40
           case hy5x40 =>
            intro w' hSw
            go_simp
            try with_reducible rfl
           simp only [sA, sB, sC]
           refine zA 6 124 ?v6x41 (by rfl) (by kernel_rfl) (by kernel_rfl) (by kernel_rfl) (by kernel_rfl) (fun _ _ _ _ h => h) (by kernel_rfl) ?hy6x41 (by assumption) ?nx6x41
           case hy6x41 =>
            intro w' hSw
            go_simp
            try with_reducible rfl
           simp only [sA, sB, sC]
           refine zA 7 125 ?v7x42 (by rfl) (by kernel_rfl) (by kernel_rfl) (by kernel_rfl) (by kernel_rfl) (fun _ _ _ _ h => h) (by kernel_rfl) ?hy7x42 (by assumption) ?nx7x42
           case hy7x42 =>
            intro w' hSw
            go_simp
            try with_reducible rfl
           simp only [sA, sB, sC]
           refine zA 8 126 ?v8x43 (by rfl) (by kernel_rfl) (by kernel_rfl) (by kernel_rfl) (by kernel_rfl) (fun _ _ _ _ h => h) (by kernel_rfl) ?hy8x43 (by assumption) ?nx8x43
           case hy8x43 =>
            intro w' hSw
            go_simp
            try with_reducible rfl
           simp only [sA, sB, sC]
           refine wpAnyH_ready (rs := [9]) (by kernel_rfl) (by simp) (AllReadyH.cons (o := _) rfl (fun K hK => ?_) AllReadyH.nil)
           go_simp
           go_at_call_of 47 (Value.agg #[.bool EN.six, .int .u32 EN.n])
           refine (HH2.out _).mono ?_
           rintro e w6 ⟨rfl, hbw6⟩
           have hqw6 := below_tr (below_drewN (Below.refl _ _) 0) hbw6
           have HS6 := zh (HS5.out.on hqw6)
           have HW6 := zh (row_on hqw6 HW5.out)
           clear hqw6 hbw6
           have kw60 : w6.cell? ⟨w1.heap.size + 1, 0, none⟩ = some (.bool b) := cell_of_row w6 _ 0 _ _ _ HS6.out.sp
           have kw61 : w6.cell? ⟨w1.heap.size + 1, 1, none⟩ = some (.int .u32 m) := cell_of_row w6 _ 1 _ _ _ HS6.out.sp
           have kw62 : w6.cell? ⟨w1.heap.size + 1, 2, none⟩ = some (.int .i64 F) := cell_of_row w6 _ 2 _ _ _ HS6.out.sp
           have kw63 : w6.cell? ⟨w1.heap.size + 1, 3, none⟩ = some (.bool ST.six) := cell_of_row w6 _ 3 _ _ _ HS6.out.sp
           have kw64 : w6.cell? ⟨w1.heap.size + 1, 4, none⟩ = some (.int .u32 ST.n) := cell_of_row w6 _ 4 _ _ _ HS6.out.sp
           have kw65 : w6.cell? ⟨w1.heap.size + 1, 5, none⟩ = some (.bool EN.six) := cell_of_row w6 _ 5 _ _ _ HS6.out.sp
           have kw66 : w6.cell? ⟨w1.heap.size + 1, 6, none⟩ = some (.int .u32 EN.n) := cell_of_row w6 _ 6 _ _ _ HS6.out.sp
           have kw67 : w6.cell? ⟨w1.heap.size + 1, 7, none⟩ = some (.bool GW.six) := cell_of_row w6 _ 7 _ _ _ HS6.out.sp
           have kw68 : w6.cell? ⟨w1.heap.size + 1, 8, none⟩ = some (.int .u32 GW.n) := cell_of_row w6 _ 8 _ _ _ HS6.out.sp
           have kw6z : w1.heap.size + 1 < w6.heap.size := HS6.out.size
           have hw60 : w6.cell? ⟨N2, 0, none⟩ = some (.bool b) := cell_of_row w6 _ 0 _ _ _ HW6.out
           have hw61 : w6.cell? ⟨N2, 1, none⟩ = some (.int .u32 m) := cell_of_row w6 _ 1 _ _ _ HW6.out
           have hw62 : w6.cell? ⟨N2, 2, none⟩ = some (.int .i64 F) := cell_of_row w6 _ 2 _ _ _ HW6.out
           have hw63 : w6.cell? ⟨N2, 3, none⟩ = some (.bool b) := cell_of_row w6 _ 3 _ _ _ HW6.out
           have hw64 : w6.cell? ⟨N2, 4, none⟩ = some (.int .u32 m) := cell_of_row w6 _ 4 _ _ _ HW6.out
           have hw65 : w6.cell? ⟨N2, 5, none⟩ = some (.bool b) := cell_of_row w6 _ 5 _ _ _ HW6.out
           have hw66 : w6.cell? ⟨N2, 6, none⟩ = some (.int .u32 L) := cell_of_row w6 _ 6 _ _ _ HW6.out
           have hw67 : w6.cell? ⟨N2, 7, none⟩ = some (.bool false) := cell_of_row w6 _ 7 _ _ _ HW6.out
           have hw68 : w6.cell? ⟨N2, 8, none⟩ = some (.int .u32 0) := cell_of_row w6 _ 8 _ _ _ HW6.out
           have hw6z : N2 < w6.heap.size := (Array.getElem?_eq_some_iff.1 HW6.out).1
           have rw60 : w6.cell? ⟨w.heap.size + 1, 0, none⟩ = some (.bool false) := cell_of_row w6 _ 0 _ _ _ HS6.out.res
           have rw61 : w6.cell? ⟨w.heap.size + 1, 1, none⟩ = some (.int .u32 0) := cell_of_row w6 _ 1 _ _ _ HS6.out.res
           have rw62 : w6.cell? ⟨w.heap.size + 1, 2, none⟩ = some (.int .i64 0) := cell_of_row w6 _ 2 _ _ _ HS6.out.res
           have rw63 : w6.cell? ⟨w.heap.size + 1, 3, none⟩ = some (.bool false) := cell_of_row w6 _ 3 _ _ _ HS6.out.res
           have rw64 : w6.cell? ⟨w.heap.size + 1, 4, none⟩ = some (.int .u32 0) := cell_of_row w6 _ 4 _ _ _ HS6.out.res
           have rw65 : w6.cell? ⟨w.heap.size + 1, 5, none⟩ = some (.bool false) := cell_of_row w6 _ 5 _ _ _ HS6.out.res
           have rw66 : w6.cell? ⟨w.heap.size + 1, 6, none⟩ = some (.int .u32 0) := cell_of_row w6 _ 6 _ _ _ HS6.out.res
           have rw67 : w6.cell? ⟨w.heap.size + 1, 7, none⟩ = some (.bool false) := cell_of_row w6 _ 7 _ _ _ HS6.out.res
           have rw68 : w6.cell? ⟨w.heap.size + 1, 8, none⟩ = some (.int .u32 0) := cell_of_row w6 _ 8 _ _ _ HS6.out.res
           have qw60 : w6.frozen? ⟨w.heap.size + 1, 0, none⟩ = false := frozen_of_row w6 _ 0 _ _ HS6.out.res
           have qw61 : w6.frozen? ⟨w.heap.size + 1, 1, none⟩ = false := frozen_of_row w6 _ 1 _ _ HS6.out.res
           have qw62 : w6.frozen? ⟨w.heap.size + 1, 2, none⟩ = false := frozen_of_row w6 _ 2 _ _ HS6.out.res
           have qw63 : w6.frozen? ⟨w.heap.size + 1, 3, none⟩ = false := frozen_of_row w6 _ 3 _ _ HS6.out.res
           have qw64 : w6.frozen? ⟨w.heap.size + 1, 4, none⟩ = false := frozen_of_row w6 _ 4 _ _ HS6.out.res
           have qw65 : w6.frozen? ⟨w.heap.size + 1, 5, none⟩ = false := frozen_of_row w6 _ 5 _ _ HS6.out.res
           have qw66 : w6.frozen? ⟨w.heap.size + 1, 6, none⟩ = false := frozen_of_row w6 _ 6 _ _ HS6.out.res
           have qw67 : w6.frozen? ⟨w.heap.size + 1, 7, none⟩ = false := frozen_of_row w6 _ 7 _ _ HS6.out.res
           have qw68 : w6.frozen? ⟨w.heap.size + 1, 8, none⟩ = false := frozen_of_row w6 _ 8 _ _ HS6.out.res
           refine hK.out _ _ ?_ (fun hHeld => ?_)
           ·go_keep
           clear hK K
           try simp only [Act.put, sA, sB, sC]
           refine zA 10 128 ?v10x44 (by rfl) (by kernel_rfl) (by kernel_rfl) (by kernel_rfl) (by kernel_rfl) (fun _ _ _ _ h => h) (by kernel_rfl) ?hy10x44 (by assumption) ?nx10x44
           case hy10x44 =>
            intro w' hSw
            go_simp
            try with_reducible rfl
           simp only [sA, sB, sC]
           refine zA 11 129 ?v11x45 (by rfl) (by kernel_rfl) (by kernel_rfl) (by kernel_rfl) (by kernel_rfl) (fun _ _ _ _ h => h) (by kernel_rfl) ?hy11x45 (by assumption) ?nx11x45
           case hy11x45 =>
            intro w' hSw
            go_simp
            try with_reducible rfl
           simp only [sA, sB, sC]
           refine zL 12 130 (by rfl) (by kernel_rfl) (by kernel_rfl) (by kernel_rfl) (by kernel_rfl) (fun _ _ _ _ h => h) (by kernel_rfl) (by assumption) ?nx12x46
           simp only [sA, sB, sC]
           refine zL 13 131 (by rfl) (by kernel_rfl) (by kernel_rfl) (by kernel_rfl) (by kernel_rfl) (fun _ _ _ _ h => h) (by kernel_rfl) (by assumption) ?nx13x47
           simp only [sA, sB, sC]
           refine zL 14 132 (by rfl) (by kernel_rfl) (by kernel_rfl) (by kernel_rfl) (by kernel_rfl) (fun _ _ _ _ h => h) (by kernel_rfl) (by assumption) ?nx14x48
           simp only [sA, sB, sC]
           refine zL 15 133 (by rfl) (by kernel_rfl) (by kernel_rfl) (by kernel_rfl) (by kernel_rfl) (fun _ _ _ _ h => h) (by kernel_rfl) (by assumption) ?nx15x49
           simp only [sA, sB, sC]
           refine zL 16 134 (by rfl) (by kernel_rfl) (by kernel_rfl) (by kernel_rfl) (by kernel_rfl) (fun _ _ _ _ h => h) (by kernel_rfl) (by assumption) ?nx16x50
           simp only [sA, sB, sC]
           refine zL 17 135 (by rfl) (by kernel_rfl) (by kernel_rfl) (by kernel_rfl) (by kernel_rfl) (fun _ _ _ _ h => h) (by kernel_rfl) (by assumption) ?nx17x51
           simp only [sA, sB, sC]
           refine zL 18 136 (by rfl) (by kernel_rfl) (by kernel_rfl) (by kernel_rfl) (by kernel_rfl) (fun _ _ _ _ h => h) (by kernel_rfl) (by assumption) ?nx18x52
           simp only [sA, sB, sC]
           refine zA 19 137 ?v19x53 (by rfl) (by kernel_rfl) (by kernel_rfl) (by kernel_rfl) (by kernel_rfl) (fun _ _ _ _ h => h) (by kernel_rfl) ?hy19x53 (by assumption) ?nx19x53
           case hy19x53 =>
            intro w' hSw
            go_simp
            try with_reducible rfl
           simp only [sA, sB, sC]
           refine wpAnyH_ready (rs := [20]) (by kernel_rfl) (by simp) (AllReadyH.cons (o := _) rfl (fun K hK => ?_) AllReadyH.nil)
           go_simp
           refine hK.out _ _ ?_ (fun hHeld => ?_)
           ·go_keep
           clear hK K
           try simp only [Act.put, sA, sB, sC]
           refine zA 21 3 ?v21x54 (by rfl) (by kernel_rfl) (by kernel_rfl) (by kernel_rfl) (by kernel_rfl) (fun _ _ _ _ h => h) (by kernel_rfl) ?hy21x54 (by assumption) ?nx21x54
           case hy21x54 =>
            intro w' hSw
            go_simp
            try with_reducible rfl
           simp only [sA, sB, sC]
           refine wpAnyH_done (by kernel_rfl) ?_ _
           clear hHeld g0 g1 g2 g3 g4 g5 g6 g7 g8 gz h0 h1 h2 h3 h4 h5 h6 h7 h8 hz r0 q0 r1 q1 r2 q2 r3 q3 r4 q4 r5 q5 r6 q6 r7 q7 r8 q8 kw50 kw51 kw52 kw53 kw54 kw55 kw56 kw57 kw58 kw5z hw50 hw51 hw52 hw53 hw54 hw55 hw56 hw57 hw58 hw5z rw50 qw50 rw51 qw51 rw52 qw52 rw53 qw53 rw54 qw54 rw55 qw55 rw56 qw56 rw57 qw57 rw58 qw58 kw60 kw61 kw62 kw63 kw64 kw65 kw66 kw67 kw68 kw6z hw60 hw61 hw62 hw63 hw64 hw65 hw66 hw67 hw68 hw6z
           go_wp
           go_meet
           refine ⟨by rw [HOK.out], xV HS6.out.res, ?_⟩
           repeat refine Below.setCell ?_ (by simp) _
           exact HS6.out.below
          | true =>
           by_cases hle : ST.n ≤ EN.n
           ·have HOK := zh (show okR R = true from by rw [HX.out, decide_eq_true hle]; rfl)
            refine wp_region_held_drew (S := (fun w' => w'.cell? ⟨w1.heap.size + 1, 0, none⟩ = some (.bool b) ∧ w'.cell? ⟨w1.heap.size + 1, 1, none⟩ = some (.int .u32 m) ∧ w'.cell? ⟨w1.heap.size + 1, 2, none⟩ = some (.int .i64 F) ∧ w'.cell? ⟨w1.heap.size + 1, 3, none⟩ = some (.bool ST.six) ∧ w'.cell? ⟨w1.heap.size + 1, 4, none⟩ = some (.int .u32 ST.n) ∧ w'.cell? ⟨w1.heap.size + 1, 5, none⟩ = some (.bool EN.six) ∧ w'.cell? ⟨w1.heap.size + 1, 6, none⟩ = some (.int .u32 EN.n) ∧ w'.cell? ⟨w1.heap.size + 1, 7, none⟩ = some (.bool GW.six) ∧ w'.cell? ⟨w1.heap.size + 1, 8, none⟩ = some (.int .u32 GW.n) ∧ w'.cell? ⟨N2, 0, none⟩ = some (.bool b) ∧ w'.cell? ⟨N2, 1, none⟩ = some (.int .u32 m) ∧ w'.cell? ⟨N2, 2, none⟩ = some (.int .i64 F) ∧ w'.cell? ⟨N2, 3, none⟩ = some (.bool b) ∧ w'.cell? ⟨N2, 4, none⟩ = some (.int .u32 m) ∧ w'.cell? ⟨N2, 5, none⟩ = some (.bool b) ∧ w'.cell? ⟨N2, 6, none⟩ = some (.int .u32 L) ∧ w'.cell? ⟨N2, 7, none⟩ = some (.bool false) ∧ w'.cell? ⟨N2, 8, none⟩ = some (.int .u32 0))) (by kernel_rfl) ?_ (fun hHeld => ?_)
            ·go_keep
            refine zA 0 118 ?v0x55 (by rfl) (by kernel_rfl) (by kernel_rfl) (by kernel_rfl) (by kernel_rfl) (fun _ _ _ _ h => h) (by kernel_rfl) ?hy0x55 (by assumption) ?nx0x55
            case hy0x55 =>
             intro w' hSw
             go_simp
             try with_reducible rfl
            simp only [sA, sB, sC]
            refine zA 1 119 ?v1x56 (by rfl) (by kernel_rfl) (by kernel_rfl) (by kernel_rfl) (by kernel_rfl) (fun _ _ _ _ h => h) (by kernel_rfl) ?hy1x56 (by assumption) ?nx1x56
            case hy1x56 =>
             intro w' hSw
             go_simp
             try with_reducible rfl
            simp only [sA, sB, sC]
            refine zA 2 120 ?v2x57 (by rfl) (by kernel_rfl) (by kernel_rfl) (by kernel_rfl) (by kernel_rfl) (fun _ _ _ _ h => h) (by kernel_rfl) ?hy2x57 (by assumption) ?nx2x57
            case hy2x57 =>
             intro w' hSw
             go_simp
             try with_reducible rfl
            simp only [sA, sB, sC]
            refine zA 3 121 ?v3x58 (by rfl) (by kernel_rfl) (by kernel_rfl) (by kernel_rfl) (by kernel_rfl) (fun _ _ _ _ h => h) (by kernel_rfl) ?hy3x58 (by assumption) ?nx3x58
            case hy3x58 =>
             intro w' hSw
             go_simp
             try with_reducible rfl
            simp only [sA, sB, sC]
            refine wpAnyH_ready (rs := [4]) (by kernel_rfl) (by simp) (AllReadyH.cons (o := _) rfl (fun K hK => ?_) AllReadyH.nil)
            go_simp
            go_at_call_of 47 (Value.agg #[.bool ST.six, .int .u32 ST.n])
            refine (HH1.out _).mono ?_
            rintro e w5 ⟨rfl, hbw5⟩
            have hqw5 := below_tr (below_drewN (Below.refl _ _) _) hbw5
            have HS5 := zh (HS.out.on hqw5)
            have HW5 := zh (row_on hqw5 HW.out)
            clear hqw5 hbw5
            have kw50 : w5.cell? ⟨w1.heap.size + 1, 0, none⟩ = some (.bool b) := cell_of_row w5 _ 0 _ _ _ HS5.out.sp
            have kw51 : w5.cell? ⟨w1.heap.size + 1, 1, none⟩ = some (.int .u32 m) := cell_of_row w5 _ 1 _ _ _ HS5.out.sp
            have kw52 : w5.cell? ⟨w1.heap.size + 1, 2, none⟩ = some (.int .i64 F) := cell_of_row w5 _ 2 _ _ _ HS5.out.sp
            have kw53 : w5.cell? ⟨w1.heap.size + 1, 3, none⟩ = some (.bool ST.six) := cell_of_row w5 _ 3 _ _ _ HS5.out.sp
            have kw54 : w5.cell? ⟨w1.heap.size + 1, 4, none⟩ = some (.int .u32 ST.n) := cell_of_row w5 _ 4 _ _ _ HS5.out.sp
            have kw55 : w5.cell? ⟨w1.heap.size + 1, 5, none⟩ = some (.bool EN.six) := cell_of_row w5 _ 5 _ _ _ HS5.out.sp
            have kw56 : w5.cell? ⟨w1.heap.size + 1, 6, none⟩ = some (.int .u32 EN.n) := cell_of_row w5 _ 6 _ _ _ HS5.out.sp
            have kw57 : w5.cell? ⟨w1.heap.size + 1, 7, none⟩ = some (.bool GW.six) := cell_of_row w5 _ 7 _ _ _ HS5.out.sp
            have kw58 : w5.cell? ⟨w1.heap.size + 1, 8, none⟩ = some (.int .u32 GW.n) := cell_of_row w5 _ 8 _ _ _ HS5.out.sp
            have kw5z : w1.heap.size + 1 < w5.heap.size := HS5.out.size
            have hw50 : w5.cell? ⟨N2, 0, none⟩ = some (.bool b) := cell_of_row w5 _ 0 _ _ _ HW5.out
            have hw51 : w5.cell? ⟨N2, 1, none⟩ = some (.int .u32 m) := cell_of_row w5 _ 1 _ _ _ HW5.out
            have hw52 : w5.cell? ⟨N2, 2, none⟩ = some (.int .i64 F) := cell_of_row w5 _ 2 _ _ _ HW5.out
            have hw53 : w5.cell? ⟨N2, 3, none⟩ = some (.bool b) := cell_of_row w5 _ 3 _ _ _ HW5.out
            have hw54 : w5.cell? ⟨N2, 4, none⟩ = some (.int .u32 m) := cell_of_row w5 _ 4 _ _ _ HW5.out
            have hw55 : w5.cell? ⟨N2, 5, none⟩ = some (.bool b) := cell_of_row w5 _ 5 _ _ _ HW5.out
            have hw56 : w5.cell? ⟨N2, 6, none⟩ = some (.int .u32 L) := cell_of_row w5 _ 6 _ _ _ HW5.out
            have hw57 : w5.cell? ⟨N2, 7, none⟩ = some (.bool false) := cell_of_row w5 _ 7 _ _ _ HW5.out
            have hw58 : w5.cell? ⟨N2, 8, none⟩ = some (.int .u32 0) := cell_of_row w5 _ 8 _ _ _ HW5.out
            have hw5z : N2 < w5.heap.size := (Array.getElem?_eq_some_iff.1 HW5.out).1
            have rw50 : w5.cell? ⟨w.heap.size + 1, 0, none⟩ = some (.bool false) := cell_of_row w5 _ 0 _ _ _ HS5.out.res
            have rw51 : w5.cell? ⟨w.heap.size + 1, 1, none⟩ = some (.int .u32 0) := cell_of_row w5 _ 1 _ _ _ HS5.out.res
            have rw52 : w5.cell? ⟨w.heap.size + 1, 2, none⟩ = some (.int .i64 0) := cell_of_row w5 _ 2 _ _ _ HS5.out.res
            have rw53 : w5.cell? ⟨w.heap.size + 1, 3, none⟩ = some (.bool false) := cell_of_row w5 _ 3 _ _ _ HS5.out.res
            have rw54 : w5.cell? ⟨w.heap.size + 1, 4, none⟩ = some (.int .u32 0) := cell_of_row w5 _ 4 _ _ _ HS5.out.res
            have rw55 : w5.cell? ⟨w.heap.size + 1, 5, none⟩ = some (.bool false) := cell_of_row w5 _ 5 _ _ _ HS5.out.res
            have rw56 : w5.cell? ⟨w.heap.size + 1, 6, none⟩ = some (.int .u32 0) := cell_of_row w5 _ 6 _ _ _ HS5.out.res
            have rw57 : w5.cell? ⟨w.heap.size + 1, 7, none⟩ = some (.bool false) := cell_of_row w5 _ 7 _ _ _ HS5.out.res
            have rw58 : w5.cell? ⟨w.heap.size + 1, 8, none⟩ = some (.int .u32 0) := cell_of_row w5 _ 8 _ _ _ HS5.out.res
            have qw50 : w5.frozen? ⟨w.heap.size + 1, 0, none⟩ = false := frozen_of_row w5 _ 0 _ _ HS5.out.res
            have qw51 : w5.frozen? ⟨w.heap.size + 1, 1, none⟩ = false := frozen_of_row w5 _ 1 _ _ HS5.out.res
            have qw52 : w5.frozen? ⟨w.heap.size + 1, 2, none⟩ = false := frozen_of_row w5 _ 2 _ _ HS5.out.res
            have qw53 : w5.frozen? ⟨w.heap.size + 1, 3, none⟩ = false := frozen_of_row w5 _ 3 _ _ HS5.out.res
            have qw54 : w5.frozen? ⟨w.heap.size + 1, 4, none⟩ = false := frozen_of_row w5 _ 4 _ _ HS5.out.res
            have qw55 : w5.frozen? ⟨w.heap.size + 1, 5, none⟩ = false := frozen_of_row w5 _ 5 _ _ HS5.out.res
            have qw56 : w5.frozen? ⟨w.heap.size + 1, 6, none⟩ = false := frozen_of_row w5 _ 6 _ _ HS5.out.res
            have qw57 : w5.frozen? ⟨w.heap.size + 1, 7, none⟩ = false := frozen_of_row w5 _ 7 _ _ HS5.out.res
            have qw58 : w5.frozen? ⟨w.heap.size + 1, 8, none⟩ = false := frozen_of_row w5 _ 8 _ _ HS5.out.res
            refine hK.out _ _ ?_ (fun hHeld => ?_)
            ·go_keep
            clear hK K
            try simp only [Act.put, sA, sB, sC]
            refine zA 5 123 ?v5x59 (by rfl) (by kernel_rfl) (by kernel_rfl) (by kernel_rfl) (by kernel_rfl) (fun _ _ _ _ h => h) (by kernel_rfl) ?hy5x59 (by assumption) ?nx5x59
            case hy5x59 =>
             intro w' hSw
             go_simp
             try with_reducible rfl
            simp only [sA, sB, sC]
            refine zA 6 124 ?v6x60 (by rfl) (by kernel_rfl) (by kernel_rfl) (by kernel_rfl) (by kernel_rfl) (fun _ _ _ _ h => h) (by kernel_rfl) ?hy6x60 (by assumption) ?nx6x60
            case hy6x60 =>
             intro w' hSw
             go_simp
             try with_reducible rfl
            simp only [sA, sB, sC]
            refine zA 7 125 ?v7x61 (by rfl) (by kernel_rfl) (by kernel_rfl) (by kernel_rfl) (by kernel_rfl) (fun _ _ _ _ h => h) (by kernel_rfl) ?hy7x61 (by assumption) ?nx7x61
            case hy7x61 =>
             intro w' hSw
             go_simp
             try with_reducible rfl
            simp only [sA, sB, sC]
            refine zA 8 126 ?v8x62 (by rfl) (by kernel_rfl) (by kernel_rfl) (by kernel_rfl) (by kernel_rfl) (fun _ _ _ _ h => h) (by kernel_rfl) ?hy8x62 (by assumption) ?nx8x62
            case hy8x62 =>
             intro w' hSw
             go_simp
             try with_reducible rfl
            simp only [sA, sB, sC]
            refine wpAnyH_ready (rs := [9]) (by kernel_rfl) (by simp) (AllReadyH.cons (o := _) rfl (fun K hK => ?_) AllReadyH.nil)
            go_simp
            go_at_call_of 47 (Value.agg #[.bool EN.six, .int .u32 EN.n])
            refine (HH2.out _).mono ?_
            rintro e w6 ⟨rfl, hbw6⟩
            have hqw6 := below_tr (below_drewN (Below.refl _ _) 0) hbw6
            have HS6 := zh (HS5.out.on hqw6)
            have HW6 := zh (row_on hqw6 HW5.out)
            clear hqw6 hbw6
            have kw60 : w6.cell? ⟨w1.heap.size + 1, 0, none⟩ = some (.bool b) := cell_of_row w6 _ 0 _ _ _ HS6.out.sp
            have kw61 : w6.cell? ⟨w1.heap.size + 1, 1, none⟩ = some (.int .u32 m) := cell_of_row w6 _ 1 _ _ _ HS6.out.sp
            have kw62 : w6.cell? ⟨w1.heap.size + 1, 2, none⟩ = some (.int .i64 F) := cell_of_row w6 _ 2 _ _ _ HS6.out.sp
            have kw63 : w6.cell? ⟨w1.heap.size + 1, 3, none⟩ = some (.bool ST.six) := cell_of_row w6 _ 3 _ _ _ HS6.out.sp
            have kw64 : w6.cell? ⟨w1.heap.size + 1, 4, none⟩ = some (.int .u32 ST.n) := cell_of_row w6 _ 4 _ _ _ HS6.out.sp
            have kw65 : w6.cell? ⟨w1.heap.size + 1, 5, none⟩ = some (.bool EN.six) := cell_of_row w6 _ 5 _ _ _ HS6.out.sp
            have kw66 : w6.cell? ⟨w1.heap.size + 1, 6, none⟩ = some (.int .u32 EN.n) := cell_of_row w6 _ 6 _ _ _ HS6.out.sp
            have kw67 : w6.cell? ⟨w1.heap.size + 1, 7, none⟩ = some (.bool GW.six) := cell_of_row w6 _ 7 _ _ _ HS6.out.sp
            have kw68 : w6.cell? ⟨w1.heap.size + 1, 8, none⟩ = some (.int .u32 GW.n) := cell_of_row w6 _ 8 _ _ _ HS6.out.sp
            have kw6z : w1.heap.size + 1 < w6.heap.size := HS6.out.size
            have hw60 : w6.cell? ⟨N2, 0, none⟩ = some (.bool b) := cell_of_row w6 _ 0 _ _ _ HW6.out
            have hw61 : w6.cell? ⟨N2, 1, none⟩ = some (.int .u32 m) := cell_of_row w6 _ 1 _ _ _ HW6.out
            have hw62 : w6.cell? ⟨N2, 2, none⟩ = some (.int .i64 F) := cell_of_row w6 _ 2 _ _ _ HW6.out
            have hw63 : w6.cell? ⟨N2, 3, none⟩ = some (.bool b) := cell_of_row w6 _ 3 _ _ _ HW6.out
            have hw64 : w6.cell? ⟨N2, 4, none⟩ = some (.int .u32 m) := cell_of_row w6 _ 4 _ _ _ HW6.out
            have hw65 : w6.cell? ⟨N2, 5, none⟩ = some (.bool b) := cell_of_row w6 _ 5 _ _ _ HW6.out
            have hw66 : w6.cell? ⟨N2, 6, none⟩ = some (.int .u32 L) := cell_of_row w6 _ 6 _ _ _ HW6.out
            have hw67 : w6.cell? ⟨N2, 7, none⟩ = some (.bool false) := cell_of_row w6 _ 7 _ _ _ HW6.out
            have hw68 : w6.cell? ⟨N2, 8, none⟩ = some (.int .u32 0) := cell_of_row w6 _ 8 _ _ _ HW6.out
            have hw6z : N2 < w6.heap.size := (Array.getElem?_eq_some_iff.1 HW6.out).1
            have rw60 : w6.cell? ⟨w.heap.size + 1, 0, none⟩ = some (.bool false) := cell_of_row w6 _ 0 _ _ _ HS6.out.res
            have rw61 : w6.cell? ⟨w.heap.size + 1, 1, none⟩ = some (.int .u32 0) := cell_of_row w6 _ 1 _ _ _ HS6.out.res
            have rw62 : w6.cell? ⟨w.heap.size + 1, 2, none⟩ = some (.int .i64 0) := cell_of_row w6 _ 2 _ _ _ HS6.out.res
            have rw63 : w6.cell? ⟨w.heap.size + 1, 3, none⟩ = some (.bool false) := cell_of_row w6 _ 3 _ _ _ HS6.out.res
            have rw64 : w6.cell? ⟨w.heap.size + 1, 4, none⟩ = some (.int .u32 0) := cell_of_row w6 _ 4 _ _ _ HS6.out.res
            have rw65 : w6.cell? ⟨w.heap.size + 1, 5, none⟩ = some (.bool false) := cell_of_row w6 _ 5 _ _ _ HS6.out.res
            have rw66 : w6.cell? ⟨w.heap.size + 1, 6, none⟩ = some (.int .u32 0) := cell_of_row w6 _ 6 _ _ _ HS6.out.res
            have rw67 : w6.cell? ⟨w.heap.size + 1, 7, none⟩ = some (.bool false) := cell_of_row w6 _ 7 _ _ _ HS6.out.res
            have rw68 : w6.cell? ⟨w.heap.size + 1, 8, none⟩ = some (.int .u32 0) := cell_of_row w6 _ 8 _ _ _ HS6.out.res
            have qw60 : w6.frozen? ⟨w.heap.size + 1, 0, none⟩ = false := frozen_of_row w6 _ 0 _ _ HS6.out.res
            have qw61 : w6.frozen? ⟨w.heap.size + 1, 1, none⟩ = false := frozen_of_row w6 _ 1 _ _ HS6.out.res
            have qw62 : w6.frozen? ⟨w.heap.size + 1, 2, none⟩ = false := frozen_of_row w6 _ 2 _ _ HS6.out.res
            have qw63 : w6.frozen? ⟨w.heap.size + 1, 3, none⟩ = false := frozen_of_row w6 _ 3 _ _ HS6.out.res
            have qw64 : w6.frozen? ⟨w.heap.size + 1, 4, none⟩ = false := frozen_of_row w6 _ 4 _ _ HS6.out.res
            have qw65 : w6.frozen? ⟨w.heap.size + 1, 5, none⟩ = false := frozen_of_row w6 _ 5 _ _ HS6.out.res
            have qw66 : w6.frozen? ⟨w.heap.size + 1, 6, none⟩ = false := frozen_of_row w6 _ 6 _ _ HS6.out.res
            have qw67 : w6.frozen? ⟨w.heap.size + 1, 7, none⟩ = false := frozen_of_row w6 _ 7 _ _ HS6.out.res
            have qw68 : w6.frozen? ⟨w.heap.size + 1, 8, none⟩ = false := frozen_of_row w6 _ 8 _ _ HS6.out.res
            refine hK.out _ _ ?_ (fun hHeld => ?_)
            ·go_keep
            clear hK K
            try simp only [Act.put, sA, sB, sC]
            refine zA 10 128 ?v10x63 (by rfl) (by kernel_rfl) (by kernel_rfl) (by kernel_rfl) (by kernel_rfl) (fun _ _ _ _ h => h) (by kernel_rfl) ?hy10x63 (by assumption) ?nx10x63
            case hy10x63 =>
             intro w' hSw
             go_simp
             try with_reducible rfl
            simp only [sA, sB, sC]
            refine zA 11 129 ?v11x64 (by rfl) (by kernel_rfl) (by kernel_rfl) (by kernel_rfl) (by kernel_rfl) (fun _ _ _ _ h => h) (by kernel_rfl) ?hy11x64 (by assumption) ?nx11x64
            case hy11x64 =>
             intro w' hSw
             go_simp
             try with_reducible rfl
            simp only [sA, sB, sC]
            refine zA 12 130 ?v12x65 (by rfl) (by kernel_rfl) (by kernel_rfl) (by kernel_rfl) (by kernel_rfl) (fun _ _ _ _ h => h) (by kernel_rfl) ?hy12x65 (by assumption) ?nx12x65
            case hy12x65 =>
             intro w' hSw
             go_simp
             try with_reducible rfl
            simp only [sA, sB, sC]
            refine zA 13 131 ?v13x66 (by rfl) (by kernel_rfl) (by kernel_rfl) (by kernel_rfl) (by kernel_rfl) (fun _ _ _ _ h => h) (by kernel_rfl) ?hy13x66 (by assumption) ?nx13x66
            case hy13x66 =>
             intro w' hSw
             go_simp
             try with_reducible rfl
            simp only [sA, sB, sC]
            refine zA 14 132 ?v14x67 (by rfl) (by kernel_rfl) (by kernel_rfl) (by kernel_rfl) (by kernel_rfl) (fun _ _ _ _ h => h) (by kernel_rfl) ?hy14x67 (by assumption) ?nx14x67
            case hy14x67 =>
             intro w' hSw
             go_simp
             try with_reducible rfl
            simp only [sA, sB, sC]
            refine zA 15 133 ?v15x68 (by rfl) (by kernel_rfl) (by kernel_rfl) (by kernel_rfl) (by kernel_rfl) (fun _ _ _ _ h => h) (by kernel_rfl) ?hy15x68 (by assumption) ?nx15x68
            case hy15x68 =>
             intro w' hSw
             go_simp
             try with_reducible rfl
            simp only [sA, sB, sC]
            refine zA 16 134 ?v16x69 (by rfl) (by kernel_rfl) (by kernel_rfl) (by kernel_rfl) (by kernel_rfl) (fun _ _ _ _ h => h) (by kernel_rfl) ?hy16x69 (by assumption) ?nx16x69
            case hy16x69 =>
             intro w' hSw
             go_simp
             try with_reducible rfl
            simp only [sA, sB, sC]
            refine zA 17 135 ?v17x70 (by rfl) (by kernel_rfl) (by kernel_rfl) (by kernel_rfl) (by kernel_rfl) (fun _ _ _ _ h => h) (by kernel_rfl) ?hy17x70 (by assumption) ?nx17x70
            case hy17x70 =>
             intro w' hSw
             go_simp
             try with_reducible rfl
            simp only [sA, sB, sC]
            refine zA 18 136 ?v18x71 (by rfl) (by kernel_rfl) (by kernel_rfl) (by kernel_rfl) (by kernel_rfl) (fun _ _ _ _ h => h) (by kernel_rfl) ?hy18x71 (by assumption) ?nx18x71
            case hy18x71 =>
             intro w' hSw
             go_simp
             try with_reducible rfl
            simp only [sA, sB, sC]
            refine zA 19 137 ?v19x72 (by rfl) (by kernel_rfl) (by kernel_rfl) (by kernel_rfl) (by kernel_rfl) (fun _ _ _ _ h => h) (by kernel_rfl) ?hy19x72 (by assumption) ?nx19x72
            case hy19x72 =>
             intro w' hSw
             go_simp
             try with_reducible rfl
            simp only [sA, sB, sC]
            refine wpAnyH_ready (rs := [20]) (by kernel_rfl) (by simp) (AllReadyH.cons (o := _) rfl (fun K hK => ?_) AllReadyH.nil)
            go_simp
            refine hK.out _ _ ?_ (fun hHeld => ?_)
            ·go_keep
            clear hK K
            try simp only [Act.put, sA, sB, sC]
            refine zA 21 3 ?v21x73 (by rfl) (by kernel_rfl) (by kernel_rfl) (by kernel_rfl) (by kernel_rfl) (fun _ _ _ _ h => h) (by kernel_rfl) ?hy21x73 (by assumption) ?nx21x73
            case hy21x73 =>
             intro w' hSw
             go_simp
             try with_reducible rfl
            simp only [sA, sB, sC]
            refine wpAnyH_done (by kernel_rfl) ?_ _
            clear hHeld g0 g1 g2 g3 g4 g5 g6 g7 g8 gz h0 h1 h2 h3 h4 h5 h6 h7 h8 hz r0 q0 r1 q1 r2 q2 r3 q3 r4 q4 r5 q5 r6 q6 r7 q7 r8 q8 kw50 kw51 kw52 kw53 kw54 kw55 kw56 kw57 kw58 kw5z hw50 hw51 hw52 hw53 hw54 hw55 hw56 hw57 hw58 hw5z rw50 qw50 rw51 qw51 rw52 qw52 rw53 qw53 rw54 qw54 rw55 qw55 rw56 qw56 rw57 qw57 rw58 qw58 kw60 kw61 kw62 kw63 kw64 kw65 kw66 kw67 kw68 kw6z hw60 hw61 hw62 hw63 hw64 hw65 hw66 hw67 hw68 hw6z
            go_wp
            go_meet
            refine ⟨by rw [HOK.out], xV HS6.out.res, ?_⟩
            repeat refine Below.setCell ?_ (by simp) _
            exact HS6.out.below
           ·have HOK := zh (show okR R = false from by rw [HX.out, decide_eq_false hle]; rfl)
            refine wp_region_held_drew (S := (fun w' => w'.cell? ⟨w1.heap.size + 1, 0, none⟩ = some (.bool b) ∧ w'.cell? ⟨w1.heap.size + 1, 1, none⟩ = some (.int .u32 m) ∧ w'.cell? ⟨w1.heap.size + 1, 2, none⟩ = some (.int .i64 F) ∧ w'.cell? ⟨w1.heap.size + 1, 3, none⟩ = some (.bool ST.six) ∧ w'.cell? ⟨w1.heap.size + 1, 4, none⟩ = some (.int .u32 ST.n) ∧ w'.cell? ⟨w1.heap.size + 1, 5, none⟩ = some (.bool EN.six) ∧ w'.cell? ⟨w1.heap.size + 1, 6, none⟩ = some (.int .u32 EN.n) ∧ w'.cell? ⟨w1.heap.size + 1, 7, none⟩ = some (.bool GW.six) ∧ w'.cell? ⟨w1.heap.size + 1, 8, none⟩ = some (.int .u32 GW.n) ∧ w'.cell? ⟨N2, 0, none⟩ = some (.bool b) ∧ w'.cell? ⟨N2, 1, none⟩ = some (.int .u32 m) ∧ w'.cell? ⟨N2, 2, none⟩ = some (.int .i64 F) ∧ w'.cell? ⟨N2, 3, none⟩ = some (.bool b) ∧ w'.cell? ⟨N2, 4, none⟩ = some (.int .u32 m) ∧ w'.cell? ⟨N2, 5, none⟩ = some (.bool b) ∧ w'.cell? ⟨N2, 6, none⟩ = some (.int .u32 L) ∧ w'.cell? ⟨N2, 7, none⟩ = some (.bool false) ∧ w'.cell? ⟨N2, 8, none⟩ = some (.int .u32 0))) (by kernel_rfl) ?_ (fun hHeld => ?_)
            ·go_keep
            refine zA 0 118 ?v0x74 (by rfl) (by kernel_rfl) (by kernel_rfl) (by kernel_rfl) (by kernel_rfl) (fun _ _ _ _ h => h) (by kernel_rfl) ?hy0x74 (by assumption) ?nx0x74
            case hy0x74 =>
             intro w' hSw
             go_simp
             try with_reducible rfl
            simp only [sA, sB, sC]
            refine zA 1 119 ?v1x75 (by rfl) (by kernel_rfl) (by kernel_rfl) (by kernel_rfl) (by kernel_rfl) (fun _ _ _ _ h => h) (by kernel_rfl) ?hy1x75 (by assumption) ?nx1x75
            case hy1x75 =>
             intro w' hSw
             go_simp
             try with_reducible rfl
            simp only [sA, sB, sC]
            refine zA 2 120 ?v2x76 (by rfl) (by kernel_rfl) (by kernel_rfl) (by kernel_rfl) (by kernel_rfl) (fun _ _ _ _ h => h) (by kernel_rfl) ?hy2x76 (by assumption) ?nx2x76
            case hy2x76 =>
             intro w' hSw
             go_simp
             try with_reducible rfl
            simp only [sA, sB, sC]
            refine zA 3 121 ?v3x77 (by rfl) (by kernel_rfl) (by kernel_rfl) (by kernel_rfl) (by kernel_rfl) (fun _ _ _ _ h => h) (by kernel_rfl) ?hy3x77 (by assumption) ?nx3x77
            case hy3x77 =>
             intro w' hSw
             go_simp
             try with_reducible rfl
            simp only [sA, sB, sC]
            refine wpAnyH_ready (rs := [4]) (by kernel_rfl) (by simp) (AllReadyH.cons (o := _) rfl (fun K hK => ?_) AllReadyH.nil)
            go_simp
            go_at_call_of 47 (Value.agg #[.bool ST.six, .int .u32 ST.n])
            refine (HH1.out _).mono ?_
            rintro e w5 ⟨rfl, hbw5⟩
            have hqw5 := below_tr (below_drewN (Below.refl _ _) _) hbw5
            have HS5 := zh (HS.out.on hqw5)
            have HW5 := zh (row_on hqw5 HW.out)
            clear hqw5 hbw5
            have kw50 : w5.cell? ⟨w1.heap.size + 1, 0, none⟩ = some (.bool b) := cell_of_row w5 _ 0 _ _ _ HS5.out.sp
            have kw51 : w5.cell? ⟨w1.heap.size + 1, 1, none⟩ = some (.int .u32 m) := cell_of_row w5 _ 1 _ _ _ HS5.out.sp
            have kw52 : w5.cell? ⟨w1.heap.size + 1, 2, none⟩ = some (.int .i64 F) := cell_of_row w5 _ 2 _ _ _ HS5.out.sp
            have kw53 : w5.cell? ⟨w1.heap.size + 1, 3, none⟩ = some (.bool ST.six) := cell_of_row w5 _ 3 _ _ _ HS5.out.sp
            have kw54 : w5.cell? ⟨w1.heap.size + 1, 4, none⟩ = some (.int .u32 ST.n) := cell_of_row w5 _ 4 _ _ _ HS5.out.sp
            have kw55 : w5.cell? ⟨w1.heap.size + 1, 5, none⟩ = some (.bool EN.six) := cell_of_row w5 _ 5 _ _ _ HS5.out.sp
            have kw56 : w5.cell? ⟨w1.heap.size + 1, 6, none⟩ = some (.int .u32 EN.n) := cell_of_row w5 _ 6 _ _ _ HS5.out.sp
            have kw57 : w5.cell? ⟨w1.heap.size + 1, 7, none⟩ = some (.bool GW.six) := cell_of_row w5 _ 7 _ _ _ HS5.out.sp
            have kw58 : w5.cell? ⟨w1.heap.size + 1, 8, none⟩ = some (.int .u32 GW.n) := cell_of_row w5 _ 8 _ _ _ HS5.out.sp
            have kw5z : w1.heap.size + 1 < w5.heap.size := HS5.out.size
            have hw50 : w5.cell? ⟨N2, 0, none⟩ = some (.bool b) := cell_of_row w5 _ 0 _ _ _ HW5.out
            have hw51 : w5.cell? ⟨N2, 1, none⟩ = some (.int .u32 m) := cell_of_row w5 _ 1 _ _ _ HW5.out
            have hw52 : w5.cell? ⟨N2, 2, none⟩ = some (.int .i64 F) := cell_of_row w5 _ 2 _ _ _ HW5.out
            have hw53 : w5.cell? ⟨N2, 3, none⟩ = some (.bool b) := cell_of_row w5 _ 3 _ _ _ HW5.out
            have hw54 : w5.cell? ⟨N2, 4, none⟩ = some (.int .u32 m) := cell_of_row w5 _ 4 _ _ _ HW5.out
            have hw55 : w5.cell? ⟨N2, 5, none⟩ = some (.bool b) := cell_of_row w5 _ 5 _ _ _ HW5.out
            have hw56 : w5.cell? ⟨N2, 6, none⟩ = some (.int .u32 L) := cell_of_row w5 _ 6 _ _ _ HW5.out
            have hw57 : w5.cell? ⟨N2, 7, none⟩ = some (.bool false) := cell_of_row w5 _ 7 _ _ _ HW5.out
            have hw58 : w5.cell? ⟨N2, 8, none⟩ = some (.int .u32 0) := cell_of_row w5 _ 8 _ _ _ HW5.out
            have hw5z : N2 < w5.heap.size := (Array.getElem?_eq_some_iff.1 HW5.out).1
            have rw50 : w5.cell? ⟨w.heap.size + 1, 0, none⟩ = some (.bool false) := cell_of_row w5 _ 0 _ _ _ HS5.out.res
            have rw51 : w5.cell? ⟨w.heap.size + 1, 1, none⟩ = some (.int .u32 0) := cell_of_row w5 _ 1 _ _ _ HS5.out.res
            have rw52 : w5.cell? ⟨w.heap.size + 1, 2, none⟩ = some (.int .i64 0) := cell_of_row w5 _ 2 _ _ _ HS5.out.res
            have rw53 : w5.cell? ⟨w.heap.size + 1, 3, none⟩ = some (.bool false) := cell_of_row w5 _ 3 _ _ _ HS5.out.res
            have rw54 : w5.cell? ⟨w.heap.size + 1, 4, none⟩ = some (.int .u32 0) := cell_of_row w5 _ 4 _ _ _ HS5.out.res
            have rw55 : w5.cell? ⟨w.heap.size + 1, 5, none⟩ = some (.bool false) := cell_of_row w5 _ 5 _ _ _ HS5.out.res
            have rw56 : w5.cell? ⟨w.heap.size + 1, 6, none⟩ = some (.int .u32 0) := cell_of_row w5 _ 6 _ _ _ HS5.out.res
            have rw57 : w5.cell? ⟨w.heap.size + 1, 7, none⟩ = some (.bool false) := cell_of_row w5 _ 7 _ _ _ HS5.out.res
            have rw58 : w5.cell? ⟨w.heap.size + 1, 8, none⟩ = some (.int .u32 0) := cell_of_row w5 _ 8 _ _ _ HS5.out.res
            have qw50 : w5.frozen? ⟨w.heap.size + 1, 0, none⟩ = false := frozen_of_row w5 _ 0 _ _ HS5.out.res
            have qw51 : w5.frozen? ⟨w.heap.size + 1, 1, none⟩ = false := frozen_of_row w5 _ 1 _ _ HS5.out.res
            have qw52 : w5.frozen? ⟨w.heap.size + 1, 2, none⟩ = false := frozen_of_row w5 _ 2 _ _ HS5.out.res
            have qw53 : w5.frozen? ⟨w.heap.size + 1, 3, none⟩ = false := frozen_of_row w5 _ 3 _ _ HS5.out.res
            have qw54 : w5.frozen? ⟨w.heap.size + 1, 4, none⟩ = false := frozen_of_row w5 _ 4 _ _ HS5.out.res
            have qw55 : w5.frozen? ⟨w.heap.size + 1, 5, none⟩ = false := frozen_of_row w5 _ 5 _ _ HS5.out.res
            have qw56 : w5.frozen? ⟨w.heap.size + 1, 6, none⟩ = false := frozen_of_row w5 _ 6 _ _ HS5.out.res
            have qw57 : w5.frozen? ⟨w.heap.size + 1, 7, none⟩ = false := frozen_of_row w5 _ 7 _ _ HS5.out.res
            have qw58 : w5.frozen? ⟨w.heap.size + 1, 8, none⟩ = false := frozen_of_row w5 _ 8 _ _ HS5.out.res
            refine hK.out _ _ ?_ (fun hHeld => ?_)
            ·go_keep
            clear hK K
            try simp only [Act.put, sA, sB, sC]
            refine zA 5 123 ?v5x78 (by rfl) (by kernel_rfl) (by kernel_rfl) (by kernel_rfl) (by kernel_rfl) (fun _ _ _ _ h => h) (by kernel_rfl) ?hy5x78 (by assumption) ?nx5x78
            case hy5x78 =>
             intro w' hSw
             go_simp
             try with_reducible rfl
            simp only [sA, sB, sC]
            refine zA 6 124 ?v6x79 (by rfl) (by kernel_rfl) (by kernel_rfl) (by kernel_rfl) (by kernel_rfl) (fun _ _ _ _ h => h) (by kernel_rfl) ?hy6x79 (by assumption) ?nx6x79
            case hy6x79 =>
             intro w' hSw
             go_simp
             try with_reducible rfl
            simp only [sA, sB, sC]
            refine zA 7 125 ?v7x80 (by rfl) (by kernel_rfl) (by kernel_rfl) (by kernel_rfl) (by kernel_rfl) (fun _ _ _ _ h => h) (by kernel_rfl) ?hy7x80 (by assumption) ?nx7x80
            case hy7x80 =>
             intro w' hSw
             go_simp
             try with_reducible rfl
            simp only [sA, sB, sC]
            refine zA 8 126 ?v8x81 (by rfl) (by kernel_rfl) (by kernel_rfl) (by kernel_rfl) (by kernel_rfl) (fun _ _ _ _ h => h) (by kernel_rfl) ?hy8x81 (by assumption) ?nx8x81
            case hy8x81 =>
             intro w' hSw
             go_simp
             try with_reducible rfl
            simp only [sA, sB, sC]
            refine wpAnyH_ready (rs := [9]) (by kernel_rfl) (by simp) (AllReadyH.cons (o := _) rfl (fun K hK => ?_) AllReadyH.nil)
            go_simp
            go_at_call_of 47 (Value.agg #[.bool EN.six, .int .u32 EN.n])
            refine (HH2.out _).mono ?_
            rintro e w6 ⟨rfl, hbw6⟩
            have hqw6 := below_tr (below_drewN (Below.refl _ _) 0) hbw6
            have HS6 := zh (HS5.out.on hqw6)
            have HW6 := zh (row_on hqw6 HW5.out)
            clear hqw6 hbw6
            have kw60 : w6.cell? ⟨w1.heap.size + 1, 0, none⟩ = some (.bool b) := cell_of_row w6 _ 0 _ _ _ HS6.out.sp
            have kw61 : w6.cell? ⟨w1.heap.size + 1, 1, none⟩ = some (.int .u32 m) := cell_of_row w6 _ 1 _ _ _ HS6.out.sp
            have kw62 : w6.cell? ⟨w1.heap.size + 1, 2, none⟩ = some (.int .i64 F) := cell_of_row w6 _ 2 _ _ _ HS6.out.sp
            have kw63 : w6.cell? ⟨w1.heap.size + 1, 3, none⟩ = some (.bool ST.six) := cell_of_row w6 _ 3 _ _ _ HS6.out.sp
            have kw64 : w6.cell? ⟨w1.heap.size + 1, 4, none⟩ = some (.int .u32 ST.n) := cell_of_row w6 _ 4 _ _ _ HS6.out.sp
            have kw65 : w6.cell? ⟨w1.heap.size + 1, 5, none⟩ = some (.bool EN.six) := cell_of_row w6 _ 5 _ _ _ HS6.out.sp
            have kw66 : w6.cell? ⟨w1.heap.size + 1, 6, none⟩ = some (.int .u32 EN.n) := cell_of_row w6 _ 6 _ _ _ HS6.out.sp
            have kw67 : w6.cell? ⟨w1.heap.size + 1, 7, none⟩ = some (.bool GW.six) := cell_of_row w6 _ 7 _ _ _ HS6.out.sp
            have kw68 : w6.cell? ⟨w1.heap.size + 1, 8, none⟩ = some (.int .u32 GW.n) := cell_of_row w6 _ 8 _ _ _ HS6.out.sp
            have kw6z : w1.heap.size + 1 < w6.heap.size := HS6.out.size
            have hw60 : w6.cell? ⟨N2, 0, none⟩ = some (.bool b) := cell_of_row w6 _ 0 _ _ _ HW6.out
            have hw61 : w6.cell? ⟨N2, 1, none⟩ = some (.int .u32 m) := cell_of_row w6 _ 1 _ _ _ HW6.out
            have hw62 : w6.cell? ⟨N2, 2, none⟩ = some (.int .i64 F) := cell_of_row w6 _ 2 _ _ _ HW6.out
            have hw63 : w6.cell? ⟨N2, 3, none⟩ = some (.bool b) := cell_of_row w6 _ 3 _ _ _ HW6.out
            have hw64 : w6.cell? ⟨N2, 4, none⟩ = some (.int .u32 m) := cell_of_row w6 _ 4 _ _ _ HW6.out
            have hw65 : w6.cell? ⟨N2, 5, none⟩ = some (.bool b) := cell_of_row w6 _ 5 _ _ _ HW6.out
            have hw66 : w6.cell? ⟨N2, 6, none⟩ = some (.int .u32 L) := cell_of_row w6 _ 6 _ _ _ HW6.out
            have hw67 : w6.cell? ⟨N2, 7, none⟩ = some (.bool false) := cell_of_row w6 _ 7 _ _ _ HW6.out
            have hw68 : w6.cell? ⟨N2, 8, none⟩ = some (.int .u32 0) := cell_of_row w6 _ 8 _ _ _ HW6.out
            have hw6z : N2 < w6.heap.size := (Array.getElem?_eq_some_iff.1 HW6.out).1
            have rw60 : w6.cell? ⟨w.heap.size + 1, 0, none⟩ = some (.bool false) := cell_of_row w6 _ 0 _ _ _ HS6.out.res
            have rw61 : w6.cell? ⟨w.heap.size + 1, 1, none⟩ = some (.int .u32 0) := cell_of_row w6 _ 1 _ _ _ HS6.out.res
            have rw62 : w6.cell? ⟨w.heap.size + 1, 2, none⟩ = some (.int .i64 0) := cell_of_row w6 _ 2 _ _ _ HS6.out.res
            have rw63 : w6.cell? ⟨w.heap.size + 1, 3, none⟩ = some (.bool false) := cell_of_row w6 _ 3 _ _ _ HS6.out.res
            have rw64 : w6.cell? ⟨w.heap.size + 1, 4, none⟩ = some (.int .u32 0) := cell_of_row w6 _ 4 _ _ _ HS6.out.res
            have rw65 : w6.cell? ⟨w.heap.size + 1, 5, none⟩ = some (.bool false) := cell_of_row w6 _ 5 _ _ _ HS6.out.res
            have rw66 : w6.cell? ⟨w.heap.size + 1, 6, none⟩ = some (.int .u32 0) := cell_of_row w6 _ 6 _ _ _ HS6.out.res
            have rw67 : w6.cell? ⟨w.heap.size + 1, 7, none⟩ = some (.bool false) := cell_of_row w6 _ 7 _ _ _ HS6.out.res
            have rw68 : w6.cell? ⟨w.heap.size + 1, 8, none⟩ = some (.int .u32 0) := cell_of_row w6 _ 8 _ _ _ HS6.out.res
            have qw60 : w6.frozen? ⟨w.heap.size + 1, 0, none⟩ = false := frozen_of_row w6 _ 0 _ _ HS6.out.res
            have qw61 : w6.frozen? ⟨w.heap.size + 1, 1, none⟩ = false := frozen_of_row w6 _ 1 _ _ HS6.out.res
            have qw62 : w6.frozen? ⟨w.heap.size + 1, 2, none⟩ = false := frozen_of_row w6 _ 2 _ _ HS6.out.res
            have qw63 : w6.frozen? ⟨w.heap.size + 1, 3, none⟩ = false := frozen_of_row w6 _ 3 _ _ HS6.out.res
            have qw64 : w6.frozen? ⟨w.heap.size + 1, 4, none⟩ = false := frozen_of_row w6 _ 4 _ _ HS6.out.res
            have qw65 : w6.frozen? ⟨w.heap.size + 1, 5, none⟩ = false := frozen_of_row w6 _ 5 _ _ HS6.out.res
            have qw66 : w6.frozen? ⟨w.heap.size + 1, 6, none⟩ = false := frozen_of_row w6 _ 6 _ _ HS6.out.res
            have qw67 : w6.frozen? ⟨w.heap.size + 1, 7, none⟩ = false := frozen_of_row w6 _ 7 _ _ HS6.out.res
            have qw68 : w6.frozen? ⟨w.heap.size + 1, 8, none⟩ = false := frozen_of_row w6 _ 8 _ _ HS6.out.res
            refine hK.out _ _ ?_ (fun hHeld => ?_)
            ·go_keep
            clear hK K
            try simp only [Act.put, sA, sB, sC]
            refine zA 10 128 ?v10x82 (by rfl) (by kernel_rfl) (by kernel_rfl) (by kernel_rfl) (by kernel_rfl) (fun _ _ _ _ h => h) (by kernel_rfl) ?hy10x82 (by assumption) ?nx10x82
            case hy10x82 =>
             intro w' hSw
             go_simp
             try with_reducible rfl
            simp only [sA, sB, sC]
            refine zA 11 129 ?v11x83 (by rfl) (by kernel_rfl) (by kernel_rfl) (by kernel_rfl) (by kernel_rfl) (fun _ _ _ _ h => h) (by kernel_rfl) ?hy11x83 (by assumption) ?nx11x83
            case hy11x83 =>
             intro w' hSw
             go_simp
             try with_reducible rfl
            simp only [sA, sB, sC]
            refine zA 12 130 ?v12x84 (by rfl) (by kernel_rfl) (by kernel_rfl) (by kernel_rfl) (by kernel_rfl) (fun _ _ _ _ h => h) (by kernel_rfl) ?hy12x84 (by assumption) ?nx12x84
            case hy12x84 =>
             intro w' hSw
             go_simp
             try with_reducible rfl
            simp only [sA, sB, sC]
            refine zA 13 131 ?v13x85 (by rfl) (by kernel_rfl) (by kernel_rfl) (by kernel_rfl) (by kernel_rfl) (fun _ _ _ _ h => h) (by kernel_rfl) ?hy13x85 (by assumption) ?nx13x85
            case hy13x85 =>
             intro w' hSw
             go_simp
             try with_reducible rfl
            simp only [sA, sB, sC]
            refine zA 14 132 ?v14x86 (by rfl) (by kernel_rfl) (by kernel_rfl) (by kernel_rfl) (by kernel_rfl) (fun _ _ _ _ h => h) (by kernel_rfl) ?hy14x86 (by assumption) ?nx14x86
            case hy14x86 =>
             intro w' hSw
             go_simp
             try with_reducible rfl
            simp only [sA, sB, sC]
            refine zA 15 133 ?v15x87 (by rfl) (by kernel_rfl) (by kernel_rfl) (by kernel_rfl) (by kernel_rfl) (fun _ _ _ _ h => h) (by kernel_rfl) ?hy15x87 (by assumption) ?nx15x87
            case hy15x87 =>
             intro w' hSw
             go_simp
             try with_reducible rfl
            simp only [sA, sB, sC]
            refine zA 16 134 ?v16x88 (by rfl) (by kernel_rfl) (by kernel_rfl) (by kernel_rfl) (by kernel_rfl) (fun _ _ _ _ h => h) (by kernel_rfl) ?hy16x88 (by assumption) ?nx16x88
            case hy16x88 =>
             intro w' hSw
             go_simp
             try with_reducible rfl
            simp only [sA, sB, sC]
            refine zA 17 135 ?v17x89 (by rfl) (by kernel_rfl) (by kernel_rfl) (by kernel_rfl) (by kernel_rfl) (fun _ _ _ _ h => h) (by kernel_rfl) ?hy17x89 (by assumption) ?nx17x89
            case hy17x89 =>
             intro w' hSw
             go_simp
             try with_reducible rfl
            simp only [sA, sB, sC]
            refine zA 18 136 ?v18x90 (by rfl) (by kernel_rfl) (by kernel_rfl) (by kernel_rfl) (by kernel_rfl) (fun _ _ _ _ h => h) (by kernel_rfl) ?hy18x90 (by assumption) ?nx18x90
            case hy18x90 =>
             intro w' hSw
             go_simp
             try with_reducible rfl
            simp only [sA, sB, sC]
            refine zA 19 137 ?v19x91 (by rfl) (by kernel_rfl) (by kernel_rfl) (by kernel_rfl) (by kernel_rfl) (fun _ _ _ _ h => h) (by kernel_rfl) ?hy19x91 (by assumption) ?nx19x91
            case hy19x91 =>
             intro w' hSw
             go_simp
             try with_reducible rfl
            simp only [sA, sB, sC]
            refine wpAnyH_ready (rs := [20]) (by kernel_rfl) (by simp) (AllReadyH.cons (o := _) rfl (fun K hK => ?_) AllReadyH.nil)
            go_simp
            refine hK.out _ _ ?_ (fun hHeld => ?_)
            ·go_keep
            clear hK K
            try simp only [Act.put, sA, sB, sC]
            refine zA 21 3 ?v21x92 (by rfl) (by kernel_rfl) (by kernel_rfl) (by kernel_rfl) (by kernel_rfl) (fun _ _ _ _ h => h) (by kernel_rfl) ?hy21x92 (by assumption) ?nx21x92
            case hy21x92 =>
             intro w' hSw
             go_simp
             try with_reducible rfl
            simp only [sA, sB, sC]
            refine wpAnyH_done (by kernel_rfl) ?_ _
            clear hHeld g0 g1 g2 g3 g4 g5 g6 g7 g8 gz h0 h1 h2 h3 h4 h5 h6 h7 h8 hz r0 q0 r1 q1 r2 q2 r3 q3 r4 q4 r5 q5 r6 q6 r7 q7 r8 q8 kw50 kw51 kw52 kw53 kw54 kw55 kw56 kw57 kw58 kw5z hw50 hw51 hw52 hw53 hw54 hw55 hw56 hw57 hw58 hw5z rw50 qw50 rw51 qw51 rw52 qw52 rw53 qw53 rw54 qw54 rw55 qw55 rw56 qw56 rw57 qw57 rw58 qw58 kw60 kw61 kw62 kw63 kw64 kw65 kw66 kw67 kw68 kw6z hw60 hw61 hw62 hw63 hw64 hw65 hw66 hw67 hw68 hw6z
            go_wp
            go_meet
            refine ⟨by rw [HOK.out], xV HS6.out.res, ?_⟩
            repeat refine Below.setCell ?_ (by simp) _
            exact HS6.out.below
end Go.Proofs.YtnehofekgnbelaaGreatDoor

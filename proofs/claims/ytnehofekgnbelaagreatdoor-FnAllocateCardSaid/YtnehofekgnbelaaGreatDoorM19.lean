/-
  Texts put together: RangeOf, Can1.
-/
import Derived.Test.YtnehofekgnbelaaGreatDoorM18
import Derived.Test.YtnehofekgnbelaaGreatDoorM11
import Derived.Deep.RegionHeld3

/-
  impl.rangeOf of a range's texts.
-/
namespace Go.Proofs.YtnehofekgnbelaaGreatDoor
open Go.RowKit
set_option linter.unusedVariables false
set_option maxRecDepth 100000
set_option maxHeartbeats 1000000

theorem three_kept {w w2 : World} {o1 o2 o3 : Obj} (hb : Below (((w.alloc o1).alloc o2).alloc o3).heap.size (((w.alloc o1).alloc o2).alloc o3) w2) :
    w2.heap[w.heap.size]? = some o1 ∧ w2.heap[w.heap.size + 1]? = some o2 ∧ Below w.heap.size w w2 ∧ w.heap.size + 2 < w2.heap.size := by
  have h3 : Below ((w.alloc o1).alloc o2).heap.size ((w.alloc o1).alloc o2) w2 := below_tr ((Below.refl _ _).alloc (Nat.le_refl _) _) hb
  obtain ⟨h1, h2, h4⟩ := two_kept' h3
  exact ⟨h1, h2, h4, by have := hb.size; simp at this; omega⟩

/-- A text that is an address, or nothing. -/
def TextIs (s : ByteArray) : Option Ad → Prop
  | none => s.size = 0
  | some a => readL (bl s) = some a
def OptAt (w : World) (v : Value) : Option Ad → Prop
  | none => v = .slice none 0 0
  | some a => AdAt w v a
theorem OptAt.keep {w w' : World} {v : Value} {o : Option Ad} (h : OptAt w v o) (hb : Below w.heap.size w w') : OptAt w' v o := by
  cases o with
  | none => exact h
  | some a => exact AdAt.keep h hb
theorem OptAt.set {w : World} {v : Value} {o : Option Ad} (h : OptAt w v o) {p : Addr} {z : Value} (hp : ∀ x : UInt8, w.cell? p ≠ some (u8v x)) : OptAt (w.setCell p z) v o := by
  cases o with
  | none => exact h
  | some a => exact AdAt.set h hp
theorem AdAt.slice {w : World} {v : Value} {a : Ad} (h : AdAt w v a) : ∃ b o n c, v = .slice (some ⟨b, o, none⟩) n c := by
  rcases h with h | h
  · obtain ⟨b, o, c, rfl, _⟩ := IPAt.out h; exact ⟨b, o, _, c, rfl⟩
  · obtain ⟨b, o, c, rfl, _⟩ := IPAt.out h; exact ⟨b, o, _, c, rfl⟩
theorem OptAt.slice {w : World} {v : Value} {o : Option Ad} (h : OptAt w v o) : ∃ b n c, v = .slice b n c := by
  cases o with
  | none => exact ⟨_, _, _, h⟩
  | some a => obtain ⟨b, o, n, c, rfl⟩ := AdAt.slice h; exact ⟨_, _, _, rfl⟩

/-- What the texts of a range tell. -/
structure RIn where
  a : Ad
  free : Nat
  o1 : Option Ad
  o2 : Option Ad
  o3 : Option Ad
structure RTexts (s0 s1 s2 s3 : ByteArray) (R : RIn) : Prop where
  net : NetOf (bl s0) R.a R.free
  short : s0.size ≤ 64
  t1 : TextIs s1 R.o1
  t2 : TextIs s2 R.o2
  t3 : TextIs s3 R.o3
theorem TextIs.short {s : ByteArray} {o : Option Ad} (h : TextIs s o) : s.size ≤ 64 := by
  cases o with
  | none => have : s.size = 0 := h; omega
  | some a => have := addr_length (a := a) h; omega

/-- The world within: the three texts and where they go, the range so far. -/
structure RgRel (w : World) (BA BO : Nat) (s1 s2 s3 : ByteArray) (R : RIn) (vi vm : Value) (i : Nat) (wr : World) : Prop where
  arr : wr.heap[BA]? = some (.cells #[.string s1, .pointer (some ⟨BO, 0, none⟩), .string s2, .pointer (some ⟨BO, 1, none⟩), .string s3, .pointer (some ⟨BO, 4, none⟩)] 144 (0, 0))
  out : ∃ v0 v1 v4, wr.heap[BO]? = some (.cells #[v0, v1, vi, vm, v4] 72 (0, 0)) ∧ OptAt wr v0 (if 0 < i then R.o1 else none) ∧ OptAt wr v1 (if 1 < i then R.o2 else none) ∧ OptAt wr v4 (if 2 < i then R.o3 else none)
  res : wr.heap[w.heap.size + 1]? = some (.cells #[.slice none 0 0, .slice none 0 0, .slice none 0 0, .slice none 0 0, .slice none 0 0] 72 (0, 0))
  long : LongAt wr vi R.a
  mask : IPAt wr vm (R.a.mask R.free)
  below : Below w.heap.size w wr
  lo : w.heap.size ≤ BO
  ao : BA ≠ BO
  ro : w.heap.size + 1 ≠ BO

theorem slat_four_at (W : World) (b : Nat) (s0 s1 s2 s3 : ByteArray) (hb : W.heap.size = b) : SlAt (W.alloc (.cells #[.string s0, .string s1, .string s2, .string s3] 9)) (.slice (some ⟨b, 0, none⟩) 4 4) (strVals [s0, s1, s2, s3]) := by
  subst hb
  exact SlAt.mk (xs := strVals [s0, s1, s2, s3]) (by simp [strVals]) (by unfold maxLen; simp) fun i hi => by
    have : i = 0 ∨ i = 1 ∨ i = 2 ∨ i = 3 := by simp [strVals] at hi; omega
    rcases this with rfl | rfl | rfl | rfl <;> simp [strVals, go_sem]

def RangePost (w : World) (R : RIn) (e : Ending) (w' : World) : Prop :=
  ∃ v0 v1 vi vm v4, e = .returned (.tuple #[.agg #[v0, v1, vi, vm, v4], .bool true]) ∧ OptAt w' v0 R.o1 ∧ OptAt w' v1 R.o2 ∧ OptAt w' v4 R.o3 ∧ LongAt w' vi R.a ∧ IPAt w' vm (R.a.mask R.free) ∧ Below w.heap.size w w'

theorem three_alloc (w1 : World) (o1 o2 o3 : Obj) : (((w1.alloc o1).alloc o2).alloc o3).heap[w1.heap.size + 1]? = some o2 ∧ (((w1.alloc o1).alloc o2).alloc o3).heap[w1.heap.size + 1 + 1]? = some o3 ∧ Below w1.heap.size w1 (((w1.alloc o1).alloc o2).alloc o3) := by
  refine ⟨?_, ?_, (((Below.refl w1.heap.size w1).alloc (Nat.le_refl _) _).alloc (by simp) _).alloc (by simp; omega) _⟩
  · rw [heap_alloc_old _ _ (by simp)]
    have h := heap_alloc_new (w1.alloc o1) o2
    rw [World.size_alloc] at h
    exact h
  · have h := heap_alloc_new ((w1.alloc o1).alloc o2) o3
    rw [World.size_alloc, World.size_alloc] at h
    exact h
section
variable {w wr w2 : World} {BA BO : Nat} {s1 s2 s3 : ByteArray} {R : RIn} {vi vm : Value} {i : Nat}
theorem RgRel.on (h : RgRel w BA BO s1 s2 s3 R vi vm i wr) (hb : Below wr.heap.size wr w2) : RgRel w BA BO s1 s2 s3 R vi vm i w2 := by
  obtain ⟨v0, v1, v4, hr, h0, h1, h4⟩ := h.out
  exact ⟨row_on hb h.arr, ⟨v0, v1, v4, row_on hb hr, h0.keep hb, h1.keep hb, h4.keep hb⟩, row_on hb h.res, IPAt.keep h.long hb, IPAt.keep h.mask hb, below_tr h.below hb, h.lo, h.ao, h.ro⟩
theorem RgRel.put {v0 v1 v4 x0 x1 x4 v : Value} {k : Nat} {j : Nat} (h : RgRel w BA BO s1 s2 s3 R vi vm i wr) (hr : wr.heap[BO]? = some (.cells #[v0, v1, vi, vm, v4] 72 (0, 0)))
    (hset : (#[v0, v1, vi, vm, v4] : Array Value).setIfInBounds k v = #[x0, x1, vi, vm, x4]) (hold : (#[v0, v1, vi, vm, v4] : Array Value)[k]? = some (.slice none 0 0))
    (h0 : OptAt wr x0 (if 0 < j then R.o1 else none)) (h1 : OptAt wr x1 (if 1 < j then R.o2 else none)) (h4 : OptAt wr x4 (if 2 < j then R.o3 else none)) : RgRel w BA BO s1 s2 s3 R vi vm j (wr.setCell ⟨BO, k, none⟩ v) := by
  have hc : ∀ x : UInt8, wr.cell? ⟨BO, k, none⟩ ≠ some (u8v x) := fun x => by
    rw [cell_of_row wr BO k _ _ _ hr, hold]
    simp [u8v]
  have hs := heap_setCell_same wr BO k _ _ v hr
  rw [hset] at hs
  refine ⟨?_, ⟨x0, x1, x4, hs, h0.set hc, h1.set hc, h4.set hc⟩, ?_, IPAt.set h.long hc, IPAt.set h.mask hc, h.below.setCell h.lo _, h.lo, h.ao, h.ro⟩
  · rw [Below.heap_setCell _ _ _ _ h.ao]; exact h.arr
  · rw [Below.heap_setCell _ _ _ _ h.ro]; exact h.res
theorem RgRel.to {j : Nat} (h : RgRel w BA BO s1 s2 s3 R vi vm i wr) (e0 : (if 0 < j then R.o1 else none) = (if 0 < i then R.o1 else none)) (e1 : (if 1 < j then R.o2 else none) = (if 1 < i then R.o2 else none)) (e4 : (if 2 < j then R.o3 else none) = (if 2 < i then R.o3 else none)) : RgRel w BA BO s1 s2 s3 R vi vm j wr := by
  obtain ⟨v0, v1, v4, hr, h0, h1, h4⟩ := h.out
  exact ⟨h.arr, ⟨v0, v1, v4, hr, by rw [e0]; exact h0, by rw [e1]; exact h1, by rw [e4]; exact h4⟩, h.res, h.long, h.mask, h.below, h.lo, h.ao, h.ro⟩
end
theorem nocell_set {w : World} {p q : Addr} {z : Value} (h : ∀ x : UInt8, w.cell? p ≠ some (u8v x)) (hne : p ≠ q) : ∀ x : UInt8, (w.setCell q z).cell? p ≠ some (u8v x) := fun x => by
  rw [World.cell?_setCell_other _ _ _ _ hne.symm]; exact h x
theorem set5_kept {w : World} {B : Nat} (h : w.heap[B]? = some (.cells #[.slice none 0 0, .slice none 0 0, .slice none 0 0, .slice none 0 0, .slice none 0 0] 72 (0, 0))) :
    (∀ a b c d e v o, OptAt w v o → OptAt (((((w.setCell ⟨B, 0, none⟩ a).setCell ⟨B, 1, none⟩ b).setCell ⟨B, 2, none⟩ c).setCell ⟨B, 3, none⟩ d).setCell ⟨B, 4, none⟩ e) v o) ∧
    (∀ a b c d e v l, IPAt w v l → IPAt (((((w.setCell ⟨B, 0, none⟩ a).setCell ⟨B, 1, none⟩ b).setCell ⟨B, 2, none⟩ c).setCell ⟨B, 3, none⟩ d).setCell ⟨B, 4, none⟩ e) v l) := by
  obtain ⟨c0, c1, c2, c3, c4⟩ := row5_facts h
  have g0 : ∀ x : UInt8, w.cell? ⟨B, 0, none⟩ ≠ some (u8v x) := fun x => by rw [c0]; simp [u8v]
  have g1 : ∀ x : UInt8, w.cell? ⟨B, 1, none⟩ ≠ some (u8v x) := fun x => by rw [c1]; simp [u8v]
  have g2 : ∀ x : UInt8, w.cell? ⟨B, 2, none⟩ ≠ some (u8v x) := fun x => by rw [c2]; simp [u8v]
  have g3 : ∀ x : UInt8, w.cell? ⟨B, 3, none⟩ ≠ some (u8v x) := fun x => by rw [c3]; simp [u8v]
  have g4 : ∀ x : UInt8, w.cell? ⟨B, 4, none⟩ ≠ some (u8v x) := fun x => by rw [c4]; simp [u8v]
  constructor
  · intro a b c d e v o ho
    exact ((((ho.set g0).set (nocell_set g1 (by simp))).set (nocell_set (nocell_set g2 (by simp)) (by simp))).set (nocell_set (nocell_set (nocell_set g3 (by simp)) (by simp)) (by simp))).set (nocell_set (nocell_set (nocell_set (nocell_set g4 (by simp)) (by simp)) (by simp)) (by simp))
  · intro a b c d e v l ho
    exact ((((ho.set g0).set (nocell_set g1 (by simp))).set (nocell_set (nocell_set g2 (by simp)) (by simp))).set (nocell_set (nocell_set (nocell_set g3 (by simp)) (by simp)) (by simp))).set (nocell_set (nocell_set (nocell_set (nocell_set g4 (by simp)) (by simp)) (by simp)) (by simp))
theorem text_none {s : ByteArray} (h : TextIs s none) : s.toList.isEmpty = true := by
  have h0 : s.size = 0 := h
  rw [Lib.toList_data, List.isEmpty_iff]
  exact List.eq_nil_of_length_eq_zero (by rw [← bl_length] at h0; exact h0)
theorem read_pos {l : List UInt8} {a : Ad} (h : readL l = some a) : l ≠ [] := by
  rintro rfl
  have h0 : readL [] = none := by decide
  rw [h0] at h
  cases h
theorem text_some {s : ByteArray} {a : Ad} (h : TextIs s (some a)) : s.toList.isEmpty = false := by
  have h0 : readL (bl s) = some a := h
  rw [Lib.toList_data, List.isEmpty_eq_false_iff]
  exact read_pos h0

theorem rangeOf_any (s0 s1 s2 s3 : ByteArray) (R : RIn) (w : World) (h : RTexts s0 s1 s2 s3 R) :
    Calls Tryz.prog 50 #[.agg #[.string s0, .string s1, .string s2, .string s3]] w (RangePost w R) := by
  have HL := Lib.hid (longIn_small [s0, s1, s2, s3] (by
    intro x hx
    simp only [List.mem_cons, List.not_mem_nil, or_false] at hx
    rcases hx with rfl | rfl | rfl | rfl
    · exact h.short
    · exact h.t1.short
    · exact h.t2.short
    · exact h.t3.short))
  have HN := Lib.hid (fun w => netOf_any s0 R.a R.free w (by have := h.short; omega) h.net)
  have H := Lib.hid h
  clear h
  go_enter Tryz.func50, Tryz.ntmps50
  go_wp2_with fail
  refine (short_yes _ [s0, s1, s2, s3] _ (slat_four_at _ _ _ _ _ _ (by simp)) HL.out).mono ?_
  rintro e w' ⟨rfl, rfl⟩
  go_wp2_with fail
  refine (HN.out _).mono ?_
  rintro e w1 ⟨vi, vm, rfl, hvi, hvm, hb1⟩
  obtain ⟨k1, k2, kw, klt⟩ := three_kept hb1
  have c0 : w1.cell? ⟨w.heap.size, 0, none⟩ = some (.string s0) := cell_of_row w1 _ 0 _ _ _ k1
  have c1 : w1.cell? ⟨w.heap.size, 1, none⟩ = some (.string s1) := cell_of_row w1 _ 1 _ _ _ k1
  have c2 : w1.cell? ⟨w.heap.size, 2, none⟩ = some (.string s2) := cell_of_row w1 _ 2 _ _ _ k1
  have c3 : w1.cell? ⟨w.heap.size, 3, none⟩ = some (.string s3) := cell_of_row w1 _ 3 _ _ _ k1
  have HVI := Lib.hid hvi
  have HVM := Lib.hid hvm
  have HK2 := Lib.hid k2
  have HKW := Lib.hid kw
  obtain ⟨bv, ov, cv, rfl, _⟩ := IPAt.out hvi
  obtain ⟨bm, om, cm, rfl, _⟩ := IPAt.out hvm
  have kl : w.heap.size < w1.heap.size := by omega
  clear k1 k2 kw hb1 hvi hvm
  go_wp2_with fail
  have h3 := three_alloc w1 (.cells #[.slice (some ⟨bv, ov, none⟩) R.a.long.length cv, .slice (some ⟨bm, om, none⟩) (R.a.mask R.free).length cm] 75) (.cells #[.slice none 0 0, .slice none 0 0, .slice (some ⟨bv, ov, none⟩) R.a.long.length cv, .slice (some ⟨bm, om, none⟩) (R.a.mask R.free).length cm, .slice none 0 0] 72) (.cells #[.string s1, .pointer (some ⟨w1.heap.size + 1, 0, none⟩), .string s2, .pointer (some ⟨w1.heap.size + 1, 1, none⟩), .string s3, .pointer (some ⟨w1.heap.size + 1, 4, none⟩)] 144)
  have HST := Lib.hid (show RgRel w (w1.heap.size + 1 + 1) (w1.heap.size + 1) s1 s2 s3 R (.slice (some ⟨bv, ov, none⟩) R.a.long.length cv) (.slice (some ⟨bm, om, none⟩) (R.a.mask R.free).length cm) 0 _ from
    ⟨h3.2.1, ⟨.slice none 0 0, .slice none 0 0, .slice none 0 0, h3.1, rfl, rfl, rfl⟩, row_on h3.2.2 HK2.out, IPAt.keep HVI.out h3.2.2, IPAt.keep HVM.out h3.2.2, below_tr HKW.out h3.2.2, by omega, by omega, by omega⟩)
  clear h3
  have hnil := fun w a n c => run_neq_slice_nil_any (P := Tryz.prog) w 67 5 a n c 0 0 Tryz.underlying67
  clear c0 c1 c2 c3
  go_loopw [5, 43] (fun ok p wr => ∃ i : Nat, i ≤ 3 ∧ p = .int .i64 i ∧ ok = .bool true ∧ Hid (RgRel w (w1.heap.size + 1 + 1) (w1.heap.size + 1) s1 s2 s3 R (.slice (some ⟨bv, ov, none⟩) R.a.long.length cv) (.slice (some ⟨bm, om, none⟩) (R.a.mask R.free).length cm) i wr)) (fun _ p _ => 3 - (intOf p).toNat)
  case atStart => exact ⟨0, by omega, rfl, rfl, HST.out⟩
  case round =>
    obtain ⟨i, hi, rfl, rfl, hr⟩ := hrel
    have harr := hr.out.arr
    have hsz := (Array.getElem?_eq_some_iff.1 harr).1
    have a0 : wr.cell? ⟨w1.heap.size + 1 + 1, 0, none⟩ = some _ := cell_of_row wr _ 0 _ _ _ harr
    have a1 : wr.cell? ⟨w1.heap.size + 1 + 1, 1, none⟩ = some _ := cell_of_row wr _ 1 _ _ _ harr
    have a2 : wr.cell? ⟨w1.heap.size + 1 + 1, 2, none⟩ = some _ := cell_of_row wr _ 2 _ _ _ harr
    have a3 : wr.cell? ⟨w1.heap.size + 1 + 1, 3, none⟩ = some _ := cell_of_row wr _ 3 _ _ _ harr
    have a4 : wr.cell? ⟨w1.heap.size + 1 + 1, 4, none⟩ = some _ := cell_of_row wr _ 4 _ _ _ harr
    have a5 : wr.cell? ⟨w1.heap.size + 1 + 1, 5, none⟩ = some _ := cell_of_row wr _ 5 _ _ _ harr
    clear harr
    obtain rfl | rfl | rfl | rfl : i = 0 ∨ i = 1 ∨ i = 2 ∨ i = 3 := by omega
    · cases ho : R.o1 with
        | none =>
          have ht := H.out.t1
          rw [ho] at ht
          have t1 := text_none ht
          have HN2 := Lib.hid (hr.out.to (j := 1) (by simp [ho]) (by simp) (by simp))
          have HO := Lib.hid ho
          clear ho ht
          go_wp2_with fail
          go_roundw
          case rel => exact ⟨1, by omega, rfl, rfl, HN2.out.on ((Below.refl _ _).alloc (Nat.le_refl _) _)⟩
          case measure => simp [intOf]
        | some x =>
          have ht := H.out.t1
          rw [ho] at ht
          have t1 := text_some ht
          have ne1 : wr.heap.size ≠ w1.heap.size + 1 := by omega
          have ne2 : w1.heap.size + 1 ≠ wr.heap.size := by omega
          have HA := Lib.hid (fun w => addressOf_any s1 x w ht (by have := addr_length (a := x) ht; omega))
          have HO := Lib.hid ho
          clear ho ht
          go_wp2_with fail
          go_region_held3 (fun w' => w'.cell? ⟨wr.heap.size, 0, none⟩ = some (.string s1) ∧ w'.cell? ⟨wr.heap.size, 1, none⟩ = some (.pointer (some ⟨w1.heap.size + 1, 0, none⟩))) (go_keep) (first | (go_at_call 39; refine (HA.out _).mono ?_; rintro e w2 ⟨v, rfl, hv, hb⟩; obtain ⟨kx, kb⟩ := one_kept hb; have HR2 := Lib.hid (hr.out.on kb); have HV := Lib.hid hv; obtain ⟨v0, v1, v4, hrow, h0, h1, h4⟩ := HR2.out.out; obtain rfl : v0 = .slice none 0 0 := (by simpa [OptAt] using h0); have HROW := Lib.hid hrow; have H014 := Lib.hid (And.intro h0 (And.intro h1 h4)); obtain ⟨bq, oq, cq, rfl, _⟩ := IPAt.out hv; have d0 : w2.cell? ⟨wr.heap.size, 0, none⟩ = some _ := cell_of_row w2 _ 0 _ _ _ kx; have d1 : w2.cell? ⟨wr.heap.size, 1, none⟩ = some _ := cell_of_row w2 _ 1 _ _ _ kx; have d2 : w2.cell? ⟨w1.heap.size + 1, 0, none⟩ = some (.slice none 0 0) := cell_of_row w2 _ 0 _ _ _ hrow; have z2 : w2.frozen? ⟨w1.heap.size + 1, 0, none⟩ = false := frozen_of_row w2 _ 0 _ _ hrow; clear hb kx kb hv hrow h0 h1 h4))
          go_wp2_with fail
          go_roundw
          case rel => exact ⟨1, by omega, rfl, rfl, HR2.out.put HROW.out rfl rfl (by rw [if_pos (by omega), HO.out]; exact .inl HV.out) (by simpa using H014.out.2.1) (by simpa using H014.out.2.2)⟩
          case measure => simp [intOf]
    · cases ho : R.o2 with
        | none =>
          have ht := H.out.t2
          rw [ho] at ht
          have t1 := text_none ht
          have HN2 := Lib.hid (hr.out.to (j := 2) (by simp) (by simp [ho]) (by simp))
          have HO := Lib.hid ho
          clear ho ht
          go_wp2_with fail
          go_roundw
          case rel => exact ⟨2, by omega, rfl, rfl, HN2.out.on ((Below.refl _ _).alloc (Nat.le_refl _) _)⟩
          case measure => simp [intOf]
        | some x =>
          have ht := H.out.t2
          rw [ho] at ht
          have t1 := text_some ht
          have ne1 : wr.heap.size ≠ w1.heap.size + 1 := by omega
          have ne2 : w1.heap.size + 1 ≠ wr.heap.size := by omega
          have HA := Lib.hid (fun w => addressOf_any s2 x w ht (by have := addr_length (a := x) ht; omega))
          have HO := Lib.hid ho
          clear ho ht
          go_wp2_with fail
          go_region_held3 (fun w' => w'.cell? ⟨wr.heap.size, 0, none⟩ = some (.string s2) ∧ w'.cell? ⟨wr.heap.size, 1, none⟩ = some (.pointer (some ⟨w1.heap.size + 1, 1, none⟩))) (go_keep) (first | (go_at_call 39; refine (HA.out _).mono ?_; rintro e w2 ⟨v, rfl, hv, hb⟩; obtain ⟨kx, kb⟩ := one_kept hb; have HR2 := Lib.hid (hr.out.on kb); have HV := Lib.hid hv; obtain ⟨v0, v1, v4, hrow, h0, h1, h4⟩ := HR2.out.out; obtain rfl : v1 = .slice none 0 0 := (by simpa [OptAt] using h1); have HROW := Lib.hid hrow; have H014 := Lib.hid (And.intro h0 (And.intro h1 h4)); obtain ⟨bq, oq, cq, rfl, _⟩ := IPAt.out hv; have d0 : w2.cell? ⟨wr.heap.size, 0, none⟩ = some _ := cell_of_row w2 _ 0 _ _ _ kx; have d1 : w2.cell? ⟨wr.heap.size, 1, none⟩ = some _ := cell_of_row w2 _ 1 _ _ _ kx; have d2 : w2.cell? ⟨w1.heap.size + 1, 1, none⟩ = some (.slice none 0 0) := cell_of_row w2 _ 1 _ _ _ hrow; have z2 : w2.frozen? ⟨w1.heap.size + 1, 1, none⟩ = false := frozen_of_row w2 _ 1 _ _ hrow; clear hb kx kb hv hrow h0 h1 h4))
          go_wp2_with fail
          go_roundw
          case rel => exact ⟨2, by omega, rfl, rfl, HR2.out.put HROW.out rfl rfl (by simpa using H014.out.1) (by rw [if_pos (by omega), HO.out]; exact .inl HV.out) (by simpa using H014.out.2.2)⟩
          case measure => simp [intOf]
    · cases ho : R.o3 with
        | none =>
          have ht := H.out.t3
          rw [ho] at ht
          have t1 := text_none ht
          have HN2 := Lib.hid (hr.out.to (j := 3) (by simp) (by simp) (by simp [ho]))
          have HO := Lib.hid ho
          clear ho ht
          go_wp2_with fail
          go_roundw
          case rel => exact ⟨3, by omega, rfl, rfl, HN2.out.on ((Below.refl _ _).alloc (Nat.le_refl _) _)⟩
          case measure => simp [intOf]
        | some x =>
          have ht := H.out.t3
          rw [ho] at ht
          have t1 := text_some ht
          have ne1 : wr.heap.size ≠ w1.heap.size + 1 := by omega
          have ne2 : w1.heap.size + 1 ≠ wr.heap.size := by omega
          have HA := Lib.hid (fun w => addressOf_any s3 x w ht (by have := addr_length (a := x) ht; omega))
          have HO := Lib.hid ho
          clear ho ht
          go_wp2_with fail
          go_region_held3 (fun w' => w'.cell? ⟨wr.heap.size, 0, none⟩ = some (.string s3) ∧ w'.cell? ⟨wr.heap.size, 1, none⟩ = some (.pointer (some ⟨w1.heap.size + 1, 4, none⟩))) (go_keep) (first | (go_at_call 39; refine (HA.out _).mono ?_; rintro e w2 ⟨v, rfl, hv, hb⟩; obtain ⟨kx, kb⟩ := one_kept hb; have HR2 := Lib.hid (hr.out.on kb); have HV := Lib.hid hv; obtain ⟨v0, v1, v4, hrow, h0, h1, h4⟩ := HR2.out.out; obtain rfl : v4 = .slice none 0 0 := (by simpa [OptAt] using h4); have HROW := Lib.hid hrow; have H014 := Lib.hid (And.intro h0 (And.intro h1 h4)); obtain ⟨bq, oq, cq, rfl, _⟩ := IPAt.out hv; have d0 : w2.cell? ⟨wr.heap.size, 0, none⟩ = some _ := cell_of_row w2 _ 0 _ _ _ kx; have d1 : w2.cell? ⟨wr.heap.size, 1, none⟩ = some _ := cell_of_row w2 _ 1 _ _ _ kx; have d2 : w2.cell? ⟨w1.heap.size + 1, 4, none⟩ = some (.slice none 0 0) := cell_of_row w2 _ 4 _ _ _ hrow; have z2 : w2.frozen? ⟨w1.heap.size + 1, 4, none⟩ = false := frozen_of_row w2 _ 4 _ _ hrow; clear hb kx kb hv hrow h0 h1 h4))
          go_wp2_with fail
          go_roundw
          case rel => exact ⟨3, by omega, rfl, rfl, HR2.out.put HROW.out rfl rfl (by simpa using H014.out.1) (by simpa using H014.out.2.1) (by rw [if_pos (by omega), HO.out]; exact .inl HV.out)⟩
          case measure => simp [intOf]
    · obtain ⟨v0, v1, v4, hrow, h0, h1, h4⟩ := hr.out.out
      have h0' : OptAt wr v0 R.o1 := by simpa using h0
      have h1' : OptAt wr v1 R.o2 := by simpa using h1
      have h4' : OptAt wr v4 R.o3 := by simpa using h4
      have HO0 := Lib.hid h0'
      have HO1 := Lib.hid h1'
      have HO4 := Lib.hid h4'
      obtain ⟨b0, n0, k0, rfl⟩ := h0'.slice
      obtain ⟨b1, n1, k1, rfl⟩ := h1'.slice
      obtain ⟨b4, n4, k4, rfl⟩ := h4'.slice
      obtain ⟨d0, d1, d2, d3, d4⟩ := row5_facts hrow
      obtain ⟨q0, q1, q2, q3, q4⟩ := row5_facts hr.out.res
      have f0 := frozen_of_row wr _ 0 _ _ hr.out.res
      have f1 := frozen_of_row wr _ 1 _ _ hr.out.res
      have f2 := frozen_of_row wr _ 2 _ _ hr.out.res
      have f3 := frozen_of_row wr _ 3 _ _ hr.out.res
      have f4 := frozen_of_row wr _ 4 _ _ hr.out.res
      have HS := Lib.hid (set5_kept (w := wr) (B := w.heap.size + 1) hr.out.res)
      have HBW := Lib.hid hr.out.below
      have HLG := Lib.hid hr.out.long
      have HMS := Lib.hid hr.out.mask
      clear h0 h1 h4 h0' h1' h4' hrow a0 a1 a2 a3 a4 a5
      go_wp2_with fail
      refine bodyPost_ret (v := .tuple #[.agg #[.slice b0 n0 k0, .slice b1 n1 k1, .slice (some ⟨bv, ov, none⟩) R.a.long.length cv, .slice (some ⟨bm, om, none⟩) (R.a.mask R.free).length cm, .slice b4 n4 k4], .bool true]) (by simp [results, Tryz.results50, go_sem, q0, q1, q2, q3, q4]) rfl ⟨_, _, _, _, _, rfl, ?_, ?_, ?_, ?_, ?_, ?_⟩
      · exact HS.out.1 _ _ _ _ _ _ _ HO0.out
      · exact HS.out.1 _ _ _ _ _ _ _ HO1.out
      · exact HS.out.1 _ _ _ _ _ _ _ HO4.out
      · exact HS.out.2 _ _ _ _ _ _ _ HLG.out
      · exact HS.out.2 _ _ _ _ _ _ _ HMS.out
      · exact below_set5 HBW.out (by omega) _ _ _ _ _

end Go.Proofs.YtnehofekgnbelaaGreatDoor

/-
  allocator.canonicalizeIP; net's networkNumberAndMask, IPNet.Contains.
-/
namespace Go.Proofs.YtnehofekgnbelaaGreatDoor
open Go.RowKit
set_option linter.unusedVariables false
set_option maxRecDepth 100000
set_option maxHeartbeats 1000000

def CanPost (w : World) (p : Addr) (a : Ad) (e : Ending) (w' : World) : Prop := ∃ v', e = .returned .nilIface ∧ BriefAt w v' a ∧ w' = w.setCell p v'

theorem six_brief {w : World} {v : Value} {n : Nat} (h : AdAt w v ⟨true, n⟩) : BriefAt w v ⟨true, n⟩ := h.elim (fun h => h) (fun h => h)

theorem canonIP_any (B k : Nat) (v : Value) (a : Ad) (w : World) (hc : w.cell? ⟨B, k, none⟩ = some v) (hz : w.frozen? ⟨B, k, none⟩ = false) (h : AdAt w v a) :
    Calls Tryz.prog 79 #[.pointer (some ⟨B, k, none⟩)] w (CanPost w ⟨B, k, none⟩ a) := by
  have hnil := fun w a n c => run_neq_slice_nil_any (P := Tryz.prog) w 67 5 a n c 0 0 Tryz.underlying67
  have HT := Lib.hid (to4_any v a w h)
  obtain ⟨six, n⟩ := a
  cases six with
  | true =>
    have hb := six_brief h
    have HB := Lib.hid hb
    obtain ⟨b, o, cap, hv, _⟩ := BriefAt.out hb
    have hw : (⟨true, n⟩ : Ad).width = 16 := rfl
    rw [hw] at hv
    subst hv
    clear hb h hw
    go_enter Tryz.func79, Tryz.ntmps79
    go_wp2_with fail
    refine HT.out.mono ?_
    rintro e w' ⟨v', rfl, hv, rfl⟩
    obtain rfl : v' = .slice none 0 0 := hv
    go_wp2_with fail
    refine (to16_sixteen _ _ _ _).mono ?_
    rintro e w' ⟨rfl, rfl⟩
    go_wp2_with fail
    refine (to16_sixteen _ _ _ _).mono ?_
    rintro e w' ⟨rfl, rfl⟩
    go_wp2_with fail
    go_ret
    exact ⟨_, rfl, HB.out, rfl⟩
  | false =>
    obtain ⟨b, o, n', cap, rfl⟩ := h.slice
    clear h
    go_enter Tryz.func79, Tryz.ntmps79
    go_wp2_with fail
    refine HT.out.mono ?_
    rintro e w' ⟨v', rfl, hv, rfl⟩
    have hv2 : BriefAt w v' ⟨false, n⟩ := hv
    obtain ⟨b2, o2, cap2, rfl, _⟩ := BriefAt.out hv2
    clear hv hv2
    go_wp2_with fail
    refine HT.out.mono ?_
    rintro e w' ⟨v', rfl, hv, rfl⟩
    have hv2 : BriefAt w v' ⟨false, n⟩ := hv
    have HV := Lib.hid hv2
    obtain ⟨b3, o3, cap3, rfl, _⟩ := BriefAt.out hv2
    clear hv hv2
    go_wp2_with fail
    go_ret
    exact ⟨_, rfl, HV.out, rfl⟩

def NnmPost (w : World) (a : Ad) (vm : Value) (e : Ending) (w' : World) : Prop := ∃ v', e = .returned (.tuple #[v', vm]) ∧ BriefAt w v' a ∧ w = w'

theorem nnm_any (B : Nat) (vi vm : Value) (a : Ad) (free : Nat) (w : World) (h0 : w.cell? ⟨B, 0, none⟩ = some vi) (h1 : w.cell? ⟨B, 1, none⟩ = some vm) (hi : BriefAt w vi a) (hm : IPAt w vm (a.mask free)) :
    Calls Tryz.prog 53 #[.pointer (some ⟨B, 0, none⟩)] w (NnmPost w a vm) := by
  have hnil := fun w a n c => Lib.run_eql_slice_nil (P := Tryz.prog) w 67 5 a n c 0 0 Tryz.underlying67
  have HT := Lib.hid (to4_any vi a w (.inr hi))
  have HI := Lib.hid hi
  obtain ⟨b, o, cap, rfl, _⟩ := BriefAt.out hi
  obtain ⟨m, mo, mcap, rfl, _⟩ := IPAt.out hm
  rw [Ad.mask_length] at h1 ⊢
  obtain ⟨six, n⟩ := a
  clear hi hm
  cases six with
  | true =>
    have hw : (⟨true, n⟩ : Ad).width = 16 := rfl
    rw [hw] at h0 h1 HI HT ⊢
    clear hw
    go_enter Tryz.func53, Tryz.ntmps53
    go_wp2_with fail
    refine HT.out.mono ?_
    rintro e w' ⟨v', rfl, hv, rfl⟩
    obtain rfl : v' = .slice none 0 0 := hv
    go_wp2_with fail
    go_ret2
    exact ⟨_, rfl, HI.out, rfl⟩
  | false =>
    have hw : (⟨false, n⟩ : Ad).width = 4 := rfl
    rw [hw] at h0 h1 HI HT ⊢
    clear hw
    go_enter Tryz.func53, Tryz.ntmps53
    go_wp2_with fail
    refine HT.out.mono ?_
    rintro e w' ⟨v', rfl, hv, rfl⟩
    have hv2 : BriefAt w v' ⟨false, n⟩ := hv
    have HV := Lib.hid hv2
    obtain ⟨b3, o3, cap3, rfl, _⟩ := BriefAt.out hv2
    have hw : (⟨false, n⟩ : Ad).width = 4 := rfl
    rw [hw] at HV ⊢
    clear hv hv2 hw
    go_wp2_with fail
    go_ret2
    exact ⟨_, rfl, HV.out, rfl⟩

theorem net_iff {a b : Ad} {free : Nat} (oa : a.ok) (ob : b.ok) (h6 : a.six = b.six) : (∀ i, i < a.width → (a.net free).brief.getD i 0 = (b.net free).brief.getD i 0) ↔ a.net free = b.net free := by
  constructor
  · intro h
    exact brief_inj (net_ok free oa) (net_ok free ob) h6 (brief_ext (a := a.net free) (b := b.net free) h6 h)
  · intro h i _
    rw [h]

instance adDec (a b : Ad) : Decidable (a = b) := decidable_of_iff (a.six = b.six ∧ a.n = b.n) ⟨fun h => by
  obtain ⟨s, n⟩ := a
  obtain ⟨t, m⟩ := b
  simp only at h
  rw [h.1, h.2], fun h => by rw [h]; exact ⟨rfl, rfl⟩⟩

/-- An address of the net's own kind. -/
theorem netContains_any (B : Nat) (vi vm v : Value) (a b : Ad) (free : Nat) (w : World) (h0 : w.cell? ⟨B, 0, none⟩ = some vi) (h1 : w.cell? ⟨B, 1, none⟩ = some vm) (hi : BriefAt w vi a) (hm : IPAt w vm (a.mask free)) (hv : BriefAt w v b)
    (oa : a.ok) (ob : b.ok) (hf : free ≤ a.room) (h6 : a.six = b.six) :
    Calls Tryz.prog 125 #[.pointer (some ⟨B, 0, none⟩), v] w (BelowPost w (.bool (decide (a.net free = b.net free)))) := by
  have hnil := fun w a n c => run_neq_slice_nil_any (P := Tryz.prog) w 67 5 a n c 0 0 Tryz.underlying67
  have HN := Lib.hid (nnm_any B vi vm a free w h0 h1 hi hm)
  have HT := Lib.hid (to4_any v b w (.inr hv))
  have HV := Lib.hid hv
  have HANDA := Lib.hid (fun i (h : i < a.width) => and_ad a free i oa hf h)
  have HANDB := Lib.hid (fun i (h : i < a.width) => by
    have h2 := and_ad b free i ob (by have : b.room = a.room := by unfold Ad.room; rw [h6]
                                      omega) (by rw [← width_eq h6]; exact h)
    have h3 : b.mask free = a.mask free := by unfold Ad.mask; rw [width_eq h6]
    rw [h3] at h2
    exact h2)
  have HIFF := Lib.hid (net_iff (free := free) oa ob h6)
  have hwb := (width_eq h6).symm
  obtain ⟨m, mo, mcap, rfl, lm, gm1, gm2, gmc⟩ := IPAt.out hm
  rw [Ad.mask_length] at h1 HN gm1 gmc
  obtain ⟨bv, ov, cv, rfl, lv, gv1, gv2, gvc⟩ := BriefAt.out hv
  rw [hwb] at gv1 gvc HV HT ⊢
  have HGM := Lib.hid gmc
  have HGV := Lib.hid gvc
  obtain ⟨W, hW⟩ : ∃ W, W = a.width := ⟨_, rfl⟩
  have hW16 := (width_cases a).2
  have hW0 := (width_cases a).1
  rw [← hW] at h1 HN gm1 gv1 HV HT HANDA HANDB HIFF HGM HGV hW16 hW0 ⊢
  have HW := Lib.hid hW
  have H6 := Lib.hid h6
  clear hi hm hv oa ob hf gmc gvc hwb hW h6 h0
  go_enter Tryz.func125, Tryz.ntmps125
  go_wp2_with fail
  refine HN.out.mono ?_
  rintro e w' ⟨vn, rfl, hvn, rfl⟩
  obtain ⟨bn, on, cn, rfl, ln, gn1, gn2, gnc⟩ := BriefAt.out hvn
  rw [← HW.out] at gn1 gnc ⊢
  have HGN := Lib.hid gnc
  clear hvn gnc
  go_wp2_with fail
  refine HT.out.mono ?_
  rintro e w' ⟨v', rfl, hv', rfl⟩
  have hfin : ∃ b2 o2 c2, (v' = .slice none 0 0 ∧ b2 = bv ∧ o2 = ov ∧ c2 = cv ∨ v' = .slice (some ⟨b2, o2, none⟩) W c2) ∧ W ≤ c2 ∧ c2 ≤ 9223372036854775807 ∧ b2 < w.heap.size ∧ ∀ i, i < W → w.cell? ⟨b2, o2 + i, none⟩ = some (.int .u8 (b.brief.getD i 0).toNat) := by
    cases hs : b.six with
    | true =>
      rw [hs, if_pos rfl] at hv'
      exact ⟨bv, ov, cv, .inl ⟨hv', rfl, rfl, rfl⟩, gv1, gv2, lv, HGV.out⟩
    | false =>
      rw [hs, if_neg (by decide)] at hv'
      obtain ⟨b2, o2, c2, h1, h2, h3, h4, h5⟩ := BriefAt.out hv'
      rw [show b.width = W by rw [HW.out]; exact (width_eq H6.out).symm] at h1 h3 h5
      exact ⟨b2, o2, c2, .inr h1, h3, h4, h2, h5⟩
  obtain ⟨b2, o2, c2, hcase, g1, g2, l2, hcc⟩ := hfin
  have HCC := Lib.hid hcc
  clear hcc hv'
  rcases hcase with ⟨rfl, rfl, rfl, rfl⟩ | rfl
  all_goals
    clear HN HT HV
    go_wp2_with fail
    go_loopw [9] (fun i wr => ∃ k : Nat, k ≤ W ∧ i = .int .i64 k ∧ Hid ((∀ j, j < k → (a.net free).brief.getD j 0 = (b.net free).brief.getD j 0) ∧ Below w.heap.size w wr)) (fun i _ => W - (intOf i).toNat)
    case atStart => exact ⟨0, Nat.zero_le _, rfl, (fun j hj => by omega), Below.refl _ _⟩
    case round =>
      obtain ⟨k, hk, rfl, hr⟩ := hrel
      by_cases hlt : k < W
      · have c1 := (hr.out.2.cell (p := ⟨bn, on + k, none⟩) ln).trans (HGN.out k hlt)
        have c2 := (hr.out.2.cell (p := ⟨m, mo + k, none⟩) lm).trans (HGM.out k hlt)
        have c3 := (hr.out.2.cell (p := ⟨b2, o2 + k, none⟩) l2).trans (HCC.out k hlt)
        have ha := HANDA.out k hlt
        have hb := HANDB.out k hlt
        have HNEXT := Lib.hid (show (a.net free).brief.getD k 0 = (b.net free).brief.getD k 0 → ∀ j, j < k + 1 → (a.net free).brief.getD j 0 = (b.net free).brief.getD j 0 from fun e j hj => by
          by_cases hjk : j = k
          · rw [hjk]; exact e
          · exact hr.out.1 j (by omega))
        have HNOT := Lib.hid (show (a.net free).brief.getD k 0 ≠ (b.net free).brief.getD k 0 → ¬ (a.net free = b.net free) from fun e h => e (by rw [h]))
        generalize a.brief.getD k 0 = x1 at c1 ha
        generalize (a.mask free).getD k 0 = x2 at c2 ha hb
        generalize b.brief.getD k 0 = x3 at c3 hb
        generalize (a.net free).brief.getD k 0 = y1 at ha HNEXT HNOT
        generalize (b.net free).brief.getD k 0 = y2 at hb HNEXT HNOT
        have q1 : (0 : Int) ≤ (k : Int) := by omega
        have q2 : (k : Int) < W := by omega
        by_cases hxy : y1 = y2
        · have t1 : ((y1.toNat : Int) != y2.toNat) = false := by rw [hxy]; simp
          have HN2 := Lib.hid (HNEXT.out hxy)
          clear hxy HNEXT HNOT
          go_wp2_with fail
          go_quiet (fail)
          go_wp2_with fail
          go_roundw
          case rel => exact ⟨k + 1, by omega, by go_num, HN2.out, below_drewN hr.out.2 _⟩
          case measure => simp [intOf]; omega
        · have t1 : ((y1.toNat : Int) != y2.toNat) = true := by
            rw [bne_iff_ne]
            intro h
            exact hxy (UInt8.toNat_inj.1 (by omega))
          have HN2 := Lib.hid (HNOT.out hxy)
          clear hxy HNEXT HNOT
          go_wp2_with fail
          go_quiet (fail)
          go_wp2_with fail
          go_ret
          exact ⟨ret_bool (by rw [decide_eq_false HN2.out]), below_drewN hr.out.2 _⟩
      · obtain rfl : k = W := by omega
        have HD := Lib.hid (HIFF.out.1 hr.out.1)
        go_wp2_with fail
        go_ret
        exact ⟨ret_bool (by rw [decide_eq_true HD.out]), hr.out.2⟩

end Go.Proofs.YtnehofekgnbelaaGreatDoor

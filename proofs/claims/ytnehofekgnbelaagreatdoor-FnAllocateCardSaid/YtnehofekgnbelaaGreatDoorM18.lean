/-
  Texts put together: Str, Next1, NetOf.
-/
import Derived.Test.YtnehofekgnbelaaGreatDoorM16
import Derived.Test.YtnehofekgnbelaaGreatDoorM17
import Derived.Laws.BytesString
import Derived.Laws.OwnMore
import Derived.Test.YtnehofekgnbelaaGreatDoorM12
import Derived.Test.YtnehofekgnbelaaGreatDoorM11
import Derived.Test.YtnehofekgnbelaaGreatDoorM13

/-
  net.IP's appendTo, String: the text of an address.
-/
namespace Go.Proofs.YtnehofekgnbelaaGreatDoor
open Go.RowKit
set_option linter.unusedVariables false
set_option maxRecDepth 100000
set_option maxHeartbeats 1000000

theorem foldl_push (l : List UInt8) : ∀ r : ByteArray, bl (l.foldl (fun r n => r.push n) r) = bl r ++ l := by
  induction l with
  | nil => intro r; simp
  | cons x l ih => intro r; rw [List.foldl_cons, ih]; simp [bl]
theorem foldl_bytes (l : List UInt8) : ∀ r : ByteArray, bl ((l.map fun x => (x.toNat : Int)).foldl (fun r n => r.push (UInt8.ofNat n.toNat)) r) = bl r ++ l := by
  induction l with
  | nil => intro r; simp
  | cons x l ih =>
    intro r
    rw [List.map_cons, List.foldl_cons, ih]
    simp [bl]

/-- The text of a row of bytes. -/
theorem Buf.conv {w : World} {base : Nat} {v : Value} {l : List UInt8} (h : Buf w base v l) (h0 : 0 < l.length) :
    ∃ s : ByteArray, bl s = l ∧ (convert 43 9 v).run Tryz.prog w = .ok (.string s) w := by
  rcases h.2 with ⟨_, hn⟩ | ⟨g, cap, cur, rfl, _⟩
  · omega
  · refine ⟨(l.map fun x => (x.toNat : Int)).foldl (fun r n => r.push (UInt8.ofNat n.toNat)) ByteArray.empty, ?_, ?_⟩
    rotate_left
    · rw [run_convert_bytes_string _ 43 9 5 _ _ _ Tryz.underlying43 Tryz.underlying5 Tryz.underlying9]
      refine run_bytesToString _ ⟨g, 0, none⟩ l.length cap (l.map fun x => (x.toNat : Int)) ?_
      have hl := run_loadCells_list (P := Tryz.prog) w ⟨g, 0, none⟩ (ipv l) (fun j v hj => World.ownsRow.cells h rfl j v hj)
      rw [ipv_length] at hl
      rw [hl]
      congr 2
      simp [ipv, u8v, Function.comp_def]
    · rw [foldl_bytes]; simp [bl]

theorem ipAppendTo_any (vi vb : Value) (a : Ad) (base : Nat) (l : List UInt8) (w : World) (h : AdAt w vi a) (ok : a.ok) (hB : Buf w base vb l) (hb : base ≤ w.heap.size) (hl : l.length ≤ 900) :
    Calls Tryz.prog 58 #[vi, vb] w (BufPost w base vb l a.text) := by
  have HT := Lib.hid (to4_any vi a w h)
  have HP := Lib.hid (fun w base v l => appendTo_any a base v l w ok)
  have HF := Lib.hid (fun v w h => addrFromSlice_any v a w h ok)
  have HB := Lib.hid hB
  have HH := Lib.hid h
  obtain ⟨m, hm⟩ : ∃ m, m = a.text := ⟨_, rfl⟩
  rw [← hm] at HP ⊢
  clear h hB ok hm
  generalize a.hi = hi at HP HF
  generalize a.lo = lo at HP HF
  obtain ⟨six, n⟩ := a
  cases six with
  | true =>
    have hbr : BriefAt w vi ⟨true, n⟩ := HH.out.elim (fun h => h) (fun h => h)
    have ho := BriefAt.out hbr
    have HBR := Lib.hid hbr
    obtain ⟨b, off, cap, rfl, _⟩ := ho
    clear hbr
    have hw : (⟨true, n⟩ : Ad).width = 16 := rfl
    rw [hw] at HBR HT HH ⊢
    clear hw
    unfold naddr at HP HF
    go_enter Tryz.func58, Tryz.ntmps58
    go_wp2_with fail
    refine HT.out.mono ?_
    rintro e w1 ⟨v', rfl, hv, rfl⟩
    obtain rfl : v' = .slice none 0 0 := hv
    go_wp2_with fail
    refine (HF.out _ _ HBR.out).mono ?_
    rintro e w1 ⟨rfl, hb1⟩
    have HG1 := Lib.hid ((Grown.refl w vb).on hb1)
    have HB1 := Lib.hid (HB.out.keep hb1)
    have hb1' : base ≤ w1.heap.size := Nat.le_trans hb hb1.size
    clear hb1
    go_wp2_with fail
    refine (HP.out _ _ _ _ (HB1.out.alloc _) (by simp; omega) hl).mono ?_
    rintro e w2 ⟨v2, rfl, hB2, hG2⟩
    have HB2 := Lib.hid hB2
    have HG2 := Lib.hid (HG1.out.trans hG2.before)
    clear hB2 hG2
    go_wp2_with fail
    go_ret
    exact ⟨_, rfl, HB2.out, HG2.out⟩
  | false =>
    go_enter Tryz.func58, Tryz.ntmps58
    go_wp2_with fail
    refine HT.out.mono ?_
    rintro e w1 ⟨v', rfl, hv, rfl⟩
    have hbr : BriefAt w v' ⟨false, n⟩ := hv
    have ho := BriefAt.out hbr
    have HBR := Lib.hid hbr
    obtain ⟨b, off, cap, rfl, _⟩ := ho
    clear hbr hv
    have hw : (⟨false, n⟩ : Ad).width = 4 := rfl
    rw [hw] at HBR ⊢
    clear hw
    unfold naddr at HP HF
    go_wp2_with fail
    refine (HF.out _ _ HBR.out).mono ?_
    rintro e w1 ⟨rfl, hb1⟩
    have HG1 := Lib.hid ((Grown.refl w vb).on hb1)
    have HB1 := Lib.hid (HB.out.keep hb1)
    have hb1' : base ≤ w1.heap.size := Nat.le_trans hb hb1.size
    clear hb1
    go_wp2_with fail
    refine (HP.out _ _ _ _ (HB1.out.alloc _) (by simp; omega) hl).mono ?_
    rintro e w2 ⟨v2, rfl, hB2, hG2⟩
    have HB2 := Lib.hid hB2
    have HG2 := Lib.hid (HG1.out.trans hG2.before)
    clear hB2 hG2
    go_wp2_with fail
    go_ret
    exact ⟨_, rfl, HB2.out, HG2.out⟩

theorem make_buf (c : Nat) (w : World) (hc : c ≤ 1000000) :
    ∃ w', (Instr.makeSlice 43 (.int .i64 0) (.int .i64 (c : Int))).run Tryz.prog w = .ok (.slice (some ⟨w.heap.size, 0, none⟩) 0 c) w' ∧
      Buf w' w.heap.size (.slice (some ⟨w.heap.size, 0, none⟩) 0 c) [] ∧ Below w.heap.size w w' := by
  obtain ⟨i0, hi, hz0, hz1, hz2⟩ := info_parts infoU8
  obtain ⟨w', h1, h2, h3⟩ := run_makeSlice_owned (P := Tryz.prog) (w := w) w.heap.size 43 5 i0 (.int .u8 0) 1 Tryz.underlying43 hi hz0 hz1 .i64 .i64 c (by omega) (by rw [hz2]; omega) (by unfold maxLen; omega) (Nat.le_refl _)
  exact ⟨w', h1, h2, ⟨h3.os, h3.tape, h3.output, h3.size, fun k hk => h3.block k hk (by simp)⟩⟩

theorem decL_pos (n : Nat) : 0 < (decL n).length := by
  by_cases h : 9 < n
  · rw [decL_of h]; simp
  · rw [decL_small h]; simp
theorem text_pos (a : Ad) : 0 < a.text.length := by
  unfold Ad.text
  split
  · simp [preL]
  · unfold quadL; simp; omega

theorem ipString_any (v : Value) (a : Ad) (w : World) (h : AdAt w v a) (ok : a.ok) :
    Calls Tryz.prog 30 #[v] w (TextPost w a.text) := by
  have hlen : ∃ b off n cap, v = .slice (some ⟨b, off, none⟩) n cap ∧ (n = 4 ∨ n = 16) := by
    rcases h with h | h
    · obtain ⟨b, off, cap, rfl, _⟩ := IPAt.out h
      exact ⟨b, off, _, cap, rfl, .inr a.long_length⟩
    · obtain ⟨b, off, cap, rfl, _⟩ := BriefAt.out h
      refine ⟨b, off, _, cap, rfl, ?_⟩
      unfold Ad.width
      split
      · exact .inr rfl
      · exact .inl rfl
  obtain ⟨b, off, n, cap, rfl, hn⟩ := hlen
  have HA := Lib.hid h
  have HP := Lib.hid (fun vi vb base l w h => ipAppendTo_any vi vb a base l w h ok)
  have HL := Lib.hid (text_pos a)
  obtain ⟨m, hm⟩ : ∃ m, m = a.text := ⟨_, rfl⟩
  rw [← hm] at HP HL ⊢
  clear h hm ok
  rcases hn with rfl | rfl
  · obtain ⟨w1, hmk, hB, hb⟩ := make_buf 15 w (by omega)
    have hmk2 : (Instr.makeSlice 43 (.int .i64 0) (.int .i64 15)).run Tryz.prog w = .ok (.slice (some ⟨w.heap.size, 0, none⟩) 0 15) w1 := hmk
    clear hmk
    have HB := Lib.hid hB
    have HB1 := Lib.hid hb
    have HK := Lib.hid (HA.out.keep hb)
    clear hB hb
    go_enter Tryz.func30, Tryz.ntmps30
    go_wp2_with fail
    refine (HP.out _ _ w.heap.size [] _ HK.out HB.out HB1.out.size (by simp)).mono ?_
    rintro e w2 ⟨v2, rfl, hB2, hG2⟩
    have hc := Buf.conv hB2 (by simpa using HL.out)
    obtain ⟨s, hs, hrun⟩ := hc
    have HS := Lib.hid hs
    have HG := Lib.hid (show Below w.heap.size w w2 from HB1.out.trans (hG2.below HB.out HB1.out.size))
    have hrun2 : (convert 43 9 v2).run Tryz.prog w2 = .ok (.string s) w2 := hrun
    clear hB2 hG2 hs hrun
    go_wp2_with fail
    go_ret
    exact ⟨s, rfl, by simpa using HS.out, HG.out⟩
  · obtain ⟨w1, hmk, hB, hb⟩ := make_buf 39 w (by omega)
    have hmk2 : (Instr.makeSlice 43 (.int .i64 0) (.int .i64 39)).run Tryz.prog w = .ok (.slice (some ⟨w.heap.size, 0, none⟩) 0 39) w1 := hmk
    clear hmk
    have HB := Lib.hid hB
    have HB1 := Lib.hid hb
    have HK := Lib.hid (HA.out.keep hb)
    clear hB hb
    go_enter Tryz.func30, Tryz.ntmps30
    go_wp2_with fail
    refine (HP.out _ _ w.heap.size [] _ HK.out HB.out HB1.out.size (by simp)).mono ?_
    rintro e w2 ⟨v2, rfl, hB2, hG2⟩
    have hc := Buf.conv hB2 (by simpa using HL.out)
    obtain ⟨s, hs, hrun⟩ := hc
    have HS := Lib.hid hs
    have HG := Lib.hid (show Below w.heap.size w w2 from HB1.out.trans (hG2.below HB.out HB1.out.size))
    have hrun2 : (convert 43 9 v2).run Tryz.prog w2 = .ok (.string s) w2 := hrun
    clear hB2 hG2 hs hrun
    go_wp2_with fail
    go_ret
    exact ⟨s, rfl, by simpa using HS.out, HG.out⟩

end Go.Proofs.YtnehofekgnbelaaGreatDoor

/-
  impl.Next's closure: so many steps from an address on.
-/
namespace Go.Proofs.YtnehofekgnbelaaGreatDoor
open Go.RowKit
set_option linter.unusedVariables false
set_option maxRecDepth 100000
set_option maxHeartbeats 1000000

theorem SlAt.set {w : World} {v : Value} {xs : List Value} (h : SlAt w v xs) {p : Addr} {z : Value} (hp : ∀ u ∈ xs, w.cell? p ≠ some u) : SlAt (w.setCell p z) v xs := by
  obtain ⟨ao, cap, rfl, hl, hm, hn, hc⟩ := h
  refine ⟨ao, cap, rfl, hl, hm, hn, fun a ha j u hu => ?_⟩
  have hcell := hc a ha j u hu
  have hne : a.add j ≠ p := fun e => hp u (List.mem_of_getElem? hu) (by rw [← e]; exact hcell)
  rw [World.cell?_setCell_other _ _ _ _ (by first | exact hne | exact hne.symm)]
  exact hcell
/-- A cell that holds no byte may be stored into: an address stays. -/
theorem IPAt.set {w : World} {v : Value} {bs : List UInt8} (h : IPAt w v bs) {p : Addr} {z : Value} (hp : ∀ x : UInt8, w.cell? p ≠ some (u8v x)) : IPAt (w.setCell p z) v bs :=
  ⟨h.1.set fun u hu => by
    simp only [ipv, List.mem_map] at hu
    obtain ⟨x, _, rfl⟩ := hu
    exact hp x, h.2⟩
theorem AdAt.set {w : World} {v : Value} {a : Ad} (h : AdAt w v a) {p : Addr} {z : Value} (hp : ∀ x : UInt8, w.cell? p ≠ some (u8v x)) : AdAt (w.setCell p z) v a :=
  h.elim (fun h => .inl (IPAt.set h hp)) (fun h => .inr (IPAt.set h hp))

/-- The world within the closure: the counter's box holds m, all else of old is as it was. -/
structure StepRel (w : World) (B : Nat) (m : Int) (wr : World) : Prop where
  row : wr.heap[B]? = some (.cells #[.int .i64 m] 3 (0, 0))
  rest : w.grownBy wr (some B)
theorem StepRel.on {w w1 w2 : World} {B : Nat} {m : Int} (h : StepRel w B m w1) (hb : Below w1.heap.size w1 w2) : StepRel w B m w2 :=
  ⟨row_on hb h.row, h.rest.andThen (row' := none) ⟨hb.os, hb.tape, hb.output, hb.size, fun k hk _ => hb.block k hk⟩ (fun j hj => by cases hj)⟩
theorem StepRel.store {w w1 : World} {B : Nat} {m : Int} (h : StepRel w B m w1) (m' : Int) : StepRel w B m' (w1.setCell ⟨B, 0, none⟩ (.int .i64 m')) := by
  refine ⟨heap_setCell_same w1 B 0 _ _ _ h.row, h.rest.os, h.rest.tape, h.rest.output, ?_, fun k hk hne => ?_⟩
  · have := h.rest.size; simp; exact this
  · rw [Below.heap_setCell _ _ _ _ (by intro e; exact hne (by rw [e]))]
    exact h.rest.block k hk hne
theorem StepRel.cell {w w1 : World} {B : Nat} {m : Int} (h : StepRel w B m w1) : w1.cell? ⟨B, 0, none⟩ = some (.int .i64 m) := cell_of_row w1 B 0 _ _ _ h.row
theorem StepRel.free {w w1 : World} {B : Nat} {m : Int} (h : StepRel w B m w1) : w1.frozen? ⟨B, 0, none⟩ = false := frozen_of_row w1 B 0 _ _ h.row
theorem StepRel.other {w w1 : World} {B k : Nat} {m : Int} {o : Obj} (h : StepRel w B m w1) (hk : w.heap[k]? = some o) (hne : k ≠ B) : w1.heap[k]? = some o := by
  rw [h.rest.block k (Array.getElem?_eq_some_iff.1 hk).1 (fun e => hne (by simpa using e))]
  exact hk

def Next1 (w : World) (B C : Nat) (l : List UInt8) (w' : World) : Prop := ∃ w1 t, w.grownBy w1 (some B) ∧ bl t = l ∧ w' = w1.setCell ⟨C, 0, none⟩ (.string t)

/-- The address so many steps from another one on. -/
def Ad.plus (a : Ad) (k : Int) : Ad := ⟨a.six, ((a.n : Int) + k).toNat⟩
def Ad.most (a : Ad) : Int := if a.six then 65535 else 4294967295
theorem plus_ok {a : Ad} {k : Int} (h0 : 0 ≤ (a.n : Int) + k) (h1 : (a.n : Int) + k ≤ a.most) : (a.plus k).ok := by
  unfold Ad.ok Ad.plus
  unfold Ad.most at h1
  simp only
  split <;> rename_i hs <;> simp [hs] at h1 <;> omega
theorem plus_zero (a : Ad) : a.plus 0 = a := by
  unfold Ad.plus
  rw [Int.add_zero, Int.toNat_natCast]
theorem plus_up (a : Ad) (k : Int) (h0 : 0 ≤ (a.n : Int) + k) : (a.plus k).up = a.plus (k + 1) := by
  unfold Ad.plus Ad.up
  simp only [Ad.mk.injEq, true_and]
  omega
theorem plus_down (a : Ad) (k : Int) (h0 : 0 < (a.n : Int) + k) : (a.plus k).down = a.plus (k - 1) := by
  unfold Ad.plus Ad.down
  simp only [Ad.mk.injEq, true_and]
  omega
theorem plus_n (a : Ad) (k : Int) (h0 : 0 ≤ (a.n : Int) + k) : ((a.plus k).n : Int) = (a.n : Int) + k := by
  unfold Ad.plus
  simp only
  omega


end Go.Proofs.YtnehofekgnbelaaGreatDoor

/-
  impl.netOf of a net's text.
-/
namespace Go.Proofs.YtnehofekgnbelaaGreatDoor
open Go.RowKit
set_option linter.unusedVariables false
set_option maxRecDepth 100000
set_option maxHeartbeats 1000000

def NetPost (w : World) (a : Ad) (free : Nat) (e : Ending) (w' : World) : Prop :=
  ∃ vi vm, e = .returned (.tuple #[.agg #[vi, vm], .bool true]) ∧ LongAt w' vi a ∧ IPAt w' vm (a.mask free) ∧ Below w.heap.size w w'

theorem netOf_any (s : ByteArray) (a : Ad) (free : Nat) (w : World) (hs : s.size ≤ 1000) (h : NetOf (bl s) a free) :
    Calls Tryz.prog 78 #[.string s] w (NetPost w a free) := by
  have HC := Lib.hid (fun w => parseCIDR_any s a free w hs h)
  clear h
  go_enter Tryz.func78, Tryz.ntmps78
  go_wp2_with fail
  refine (HC.out _).mono ?_
  rintro e w1 ⟨v, vi, vm, b, rfl, hv, hrow, hm, hb1⟩
  have hk := nz5_old' hb1
  have HV := Lib.hid hv
  have HM := Lib.hid hm
  have HB := Lib.hid hk.2
  obtain ⟨bm, om, cm, rfl, _⟩ := IPAt.out hm
  obtain ⟨bv, ov, cv, rfl, _⟩ := IPAt.out hv
  have q0 : w1.cell? ⟨w.heap.size, 0, none⟩ = some (.slice none 0 0) := cell_of_row w1 _ 0 _ _ _ hk.1
  have q1 : w1.cell? ⟨w.heap.size, 1, none⟩ = some (.slice none 0 0) := cell_of_row w1 _ 1 _ _ _ hk.1
  have f0 : w1.frozen? ⟨w.heap.size, 0, none⟩ = false := frozen_of_row w1 _ 0 _ _ hk.1
  have f1 : w1.frozen? ⟨w.heap.size, 1, none⟩ = false := frozen_of_row w1 _ 1 _ _ hk.1
  have c1 : w1.cell? ⟨b, 1, none⟩ = some _ := cell_of_row w1 _ 1 _ _ _ hrow
  have c0 : w1.cell? ⟨b, 0, none⟩ = some _ := cell_of_row w1 _ 0 _ _ _ hrow
  clear hk hb1 hv hm hrow
  go_wp2_with fail
  refine (plain_any _ a _ HV.out).mono ?_
  rintro e w2 ⟨rfl, rfl⟩
  go_wp2_with fail
  have hs0 : ∀ x : UInt8, w1.cell? ⟨w.heap.size, 0, none⟩ ≠ some (u8v x) := fun x => by rw [q0]; simp [u8v]
  have hs1 : ∀ z, ∀ x : UInt8, (w1.setCell ⟨w.heap.size, 0, none⟩ z).cell? ⟨w.heap.size, 1, none⟩ ≠ some (u8v x) := fun z x => by rw [World.cell?_setCell_other _ _ _ _ (by simp), q1]; simp [u8v]
  refine bodyPost_ret (v := .tuple #[.agg #[.slice (some ⟨bv, ov, none⟩) a.long.length cv, .slice (some ⟨bm, om, none⟩) (a.mask free).length cm], .bool true]) (by simp [results, Tryz.results78, go_sem, q0, q1]) rfl ⟨_, _, rfl, ?_, ?_, ?_⟩
  · exact IPAt.set (IPAt.set HV.out hs0) (hs1 _)
  · exact IPAt.set (IPAt.set HM.out hs0) (hs1 _)
  · exact (HB.out.setCell (Nat.le_refl _) _).setCell (Nat.le_refl _) _

end Go.Proofs.YtnehofekgnbelaaGreatDoor

/-
  Texts put together: Str, Next1, NetOf, RangeOf, Can1, Can2, Last, CanW.
-/
import Derived.Test.YtnehofekgnbelaaM12
import Derived.Test.YtnehofekgnbelaaM13
import Derived.Laws.BytesString
import Derived.Laws.OwnMore
import Derived.Test.YtnehofekgnbelaaM8
import Derived.Test.YtnehofekgnbelaaM7
import Derived.Test.YtnehofekgnbelaaM9
import Derived.Deep.RegionHeld3
import Derived.Test.YtnehofekgnbelaaM10
import Derived.Deep.AppendLies
import Derived.Test.YtnehofekgnbelaaM6

/-
  net.IP's appendTo, String: the text of an address.
-/
namespace Go.Proofs.Ytnehofekgnbelaa
open Go.RowKit
set_option linter.unusedVariables false
set_option maxRecDepth 100000
set_option maxHeartbeats 1000000

theorem foldl_push (l : List UInt8) : ∀ r : ByteArray, bl (l.foldl (fun r n => r.push n) r) = bl r ++ l := by
  induction l with
  | nil => intro r; simp
  | cons x l ih => intro r; rw [List.foldl_cons, ih]; simp [bl]
theorem foldl_bytes (l : List UInt8) : ∀ r : ByteArray, bl ((l.map fun x => (x.toNat : Int)).foldl (fun r n => r.push (UInt8.ofNat n.toNat)) r) = bl r ++ l := by
  induction l with
  | nil => intro r; simp
  | cons x l ih =>
    intro r
    rw [List.map_cons, List.foldl_cons, ih]
    simp [bl]

/-- The text of a row of bytes. -/
theorem Buf.conv {w : World} {base : Nat} {v : Value} {l : List UInt8} (h : Buf w base v l) (h0 : 0 < l.length) :
    ∃ s : ByteArray, bl s = l ∧ (convert 45 9 v).run Try.prog w = .ok (.string s) w := by
  rcases h.2 with ⟨_, hn⟩ | ⟨g, cap, cur, rfl, _⟩
  · omega
  · refine ⟨(l.map fun x => (x.toNat : Int)).foldl (fun r n => r.push (UInt8.ofNat n.toNat)) ByteArray.empty, ?_, ?_⟩
    rotate_left
    · rw [run_convert_bytes_string _ 45 9 5 _ _ _ Try.underlying45 Try.underlying5 Try.underlying9]
      refine run_bytesToString _ ⟨g, 0, none⟩ l.length cap (l.map fun x => (x.toNat : Int)) ?_
      have hl := run_loadCells_list (P := Try.prog) w ⟨g, 0, none⟩ (ipv l) (fun j v hj => World.ownsRow.cells h rfl j v hj)
      rw [ipv_length] at hl
      rw [hl]
      congr 2
      simp [ipv, u8v, Function.comp_def]
    · rw [foldl_bytes]; simp [bl]

theorem ipAppendTo_any (vi vb : Value) (a : Ad) (base : Nat) (l : List UInt8) (w : World) (h : AdAt w vi a) (ok : a.ok) (hB : Buf w base vb l) (hb : base ≤ w.heap.size) (hl : l.length ≤ 900) :
    Calls Try.prog 57 #[vi, vb] w (BufPost w base vb l a.text) := by
  have HT := Lib.hid (to4_any vi a w h)
  have HP := Lib.hid (fun w base v l => appendTo_any a base v l w ok)
  have HF := Lib.hid (fun v w h => addrFromSlice_any v a w h ok)
  have HB := Lib.hid hB
  have HH := Lib.hid h
  obtain ⟨m, hm⟩ : ∃ m, m = a.text := ⟨_, rfl⟩
  rw [← hm] at HP ⊢
  clear h hB ok hm
  generalize a.hi = hi at HP HF
  generalize a.lo = lo at HP HF
  obtain ⟨six, n⟩ := a
  cases six with
  | true =>
    have hbr : BriefAt w vi ⟨true, n⟩ := HH.out.elim (fun h => h) (fun h => h)
    have ho := BriefAt.out hbr
    have HBR := Lib.hid hbr
    obtain ⟨b, off, cap, rfl, _⟩ := ho
    clear hbr
    have hw : (⟨true, n⟩ : Ad).width = 16 := rfl
    rw [hw] at HBR HT HH ⊢
    clear hw
    unfold naddr at HP HF
    go_enter Try.func57, Try.ntmps57
    go_wp2_with fail
    refine HT.out.mono ?_
    rintro e w1 ⟨v', rfl, hv, rfl⟩
    obtain rfl : v' = .slice none 0 0 := hv
    go_wp2_with fail
    refine (HF.out _ _ HBR.out).mono ?_
    rintro e w1 ⟨rfl, hb1⟩
    have HG1 := Lib.hid ((Grown.refl w vb).on hb1)
    have HB1 := Lib.hid (HB.out.keep hb1)
    have hb1' : base ≤ w1.heap.size := Nat.le_trans hb hb1.size
    clear hb1
    go_wp2_with fail
    refine (HP.out _ _ _ _ (HB1.out.alloc _) (by simp; omega) hl).mono ?_
    rintro e w2 ⟨v2, rfl, hB2, hG2⟩
    have HB2 := Lib.hid hB2
    have HG2 := Lib.hid (HG1.out.trans hG2.before)
    clear hB2 hG2
    go_wp2_with fail
    go_ret
    exact ⟨_, rfl, HB2.out, HG2.out⟩
  | false =>
    go_enter Try.func57, Try.ntmps57
    go_wp2_with fail
    refine HT.out.mono ?_
    rintro e w1 ⟨v', rfl, hv, rfl⟩
    have hbr : BriefAt w v' ⟨false, n⟩ := hv
    have ho := BriefAt.out hbr
    have HBR := Lib.hid hbr
    obtain ⟨b, off, cap, rfl, _⟩ := ho
    clear hbr hv
    have hw : (⟨false, n⟩ : Ad).width = 4 := rfl
    rw [hw] at HBR ⊢
    clear hw
    unfold naddr at HP HF
    go_wp2_with fail
    refine (HF.out _ _ HBR.out).mono ?_
    rintro e w1 ⟨rfl, hb1⟩
    have HG1 := Lib.hid ((Grown.refl w vb).on hb1)
    have HB1 := Lib.hid (HB.out.keep hb1)
    have hb1' : base ≤ w1.heap.size := Nat.le_trans hb hb1.size
    clear hb1
    go_wp2_with fail
    refine (HP.out _ _ _ _ (HB1.out.alloc _) (by simp; omega) hl).mono ?_
    rintro e w2 ⟨v2, rfl, hB2, hG2⟩
    have HB2 := Lib.hid hB2
    have HG2 := Lib.hid (HG1.out.trans hG2.before)
    clear hB2 hG2
    go_wp2_with fail
    go_ret
    exact ⟨_, rfl, HB2.out, HG2.out⟩

theorem make_buf (c : Nat) (w : World) (hc : c ≤ 1000000) :
    ∃ w', (Instr.makeSlice 45 (.int .i64 0) (.int .i64 (c : Int))).run Try.prog w = .ok (.slice (some ⟨w.heap.size, 0, none⟩) 0 c) w' ∧
      Buf w' w.heap.size (.slice (some ⟨w.heap.size, 0, none⟩) 0 c) [] ∧ Below w.heap.size w w' := by
  obtain ⟨i0, hi, hz0, hz1, hz2⟩ := info_parts infoU8
  obtain ⟨w', h1, h2, h3⟩ := run_makeSlice_owned (P := Try.prog) (w := w) w.heap.size 45 5 i0 (.int .u8 0) 1 Try.underlying45 hi hz0 hz1 .i64 .i64 c (by omega) (by rw [hz2]; omega) (by unfold maxLen; omega) (Nat.le_refl _)
  exact ⟨w', h1, h2, ⟨h3.os, h3.tape, h3.output, h3.size, fun k hk => h3.block k hk (by simp)⟩⟩

theorem decL_pos (n : Nat) : 0 < (decL n).length := by
  by_cases h : 9 < n
  · rw [decL_of h]; simp
  · rw [decL_small h]; simp
theorem text_pos (a : Ad) : 0 < a.text.length := by
  unfold Ad.text
  split
  · simp [preL]
  · unfold quadL; simp; omega

theorem ipString_any (v : Value) (a : Ad) (w : World) (h : AdAt w v a) (ok : a.ok) :
    Calls Try.prog 34 #[v] w (TextPost w a.text) := by
  have hlen : ∃ b off n cap, v = .slice (some ⟨b, off, none⟩) n cap ∧ (n = 4 ∨ n = 16) := by
    rcases h with h | h
    · obtain ⟨b, off, cap, rfl, _⟩ := IPAt.out h
      exact ⟨b, off, _, cap, rfl, .inr a.long_length⟩
    · obtain ⟨b, off, cap, rfl, _⟩ := BriefAt.out h
      refine ⟨b, off, _, cap, rfl, ?_⟩
      unfold Ad.width
      split
      · exact .inr rfl
      · exact .inl rfl
  obtain ⟨b, off, n, cap, rfl, hn⟩ := hlen
  have HA := Lib.hid h
  have HP := Lib.hid (fun vi vb base l w h => ipAppendTo_any vi vb a base l w h ok)
  have HL := Lib.hid (text_pos a)
  obtain ⟨m, hm⟩ : ∃ m, m = a.text := ⟨_, rfl⟩
  rw [← hm] at HP HL ⊢
  clear h hm ok
  rcases hn with rfl | rfl
  · obtain ⟨w1, hmk, hB, hb⟩ := make_buf 15 w (by omega)
    have hmk2 : (Instr.makeSlice 45 (.int .i64 0) (.int .i64 15)).run Try.prog w = .ok (.slice (some ⟨w.heap.size, 0, none⟩) 0 15) w1 := hmk
    clear hmk
    have HB := Lib.hid hB
    have HB1 := Lib.hid hb
    have HK := Lib.hid (HA.out.keep hb)
    clear hB hb
    go_enter Try.func34, Try.ntmps34
    go_wp2_with fail
    refine (HP.out _ _ w.heap.size [] _ HK.out HB.out HB1.out.size (by simp)).mono ?_
    rintro e w2 ⟨v2, rfl, hB2, hG2⟩
    have hc := Buf.conv hB2 (by simpa using HL.out)
    obtain ⟨s, hs, hrun⟩ := hc
    have HS := Lib.hid hs
    have HG := Lib.hid (show Below w.heap.size w w2 from HB1.out.trans (hG2.below HB.out HB1.out.size))
    have hrun2 : (convert 45 9 v2).run Try.prog w2 = .ok (.string s) w2 := hrun
    clear hB2 hG2 hs hrun
    go_wp2_with fail
    go_ret
    exact ⟨s, rfl, by simpa using HS.out, HG.out⟩
  · obtain ⟨w1, hmk, hB, hb⟩ := make_buf 39 w (by omega)
    have hmk2 : (Instr.makeSlice 45 (.int .i64 0) (.int .i64 39)).run Try.prog w = .ok (.slice (some ⟨w.heap.size, 0, none⟩) 0 39) w1 := hmk
    clear hmk
    have HB := Lib.hid hB
    have HB1 := Lib.hid hb
    have HK := Lib.hid (HA.out.keep hb)
    clear hB hb
    go_enter Try.func34, Try.ntmps34
    go_wp2_with fail
    refine (HP.out _ _ w.heap.size [] _ HK.out HB.out HB1.out.size (by simp)).mono ?_
    rintro e w2 ⟨v2, rfl, hB2, hG2⟩
    have hc := Buf.conv hB2 (by simpa using HL.out)
    obtain ⟨s, hs, hrun⟩ := hc
    have HS := Lib.hid hs
    have HG := Lib.hid (show Below w.heap.size w w2 from HB1.out.trans (hG2.below HB.out HB1.out.size))
    have hrun2 : (convert 45 9 v2).run Try.prog w2 = .ok (.string s) w2 := hrun
    clear hB2 hG2 hs hrun
    go_wp2_with fail
    go_ret
    exact ⟨s, rfl, by simpa using HS.out, HG.out⟩

end Go.Proofs.Ytnehofekgnbelaa

/-
  impl.Next's closure: so many steps from an address on.
-/
namespace Go.Proofs.Ytnehofekgnbelaa
open Go.RowKit
set_option linter.unusedVariables false
set_option maxRecDepth 100000
set_option maxHeartbeats 1000000

theorem SlAt.set {w : World} {v : Value} {xs : List Value} (h : SlAt w v xs) {p : Addr} {z : Value} (hp : ∀ u ∈ xs, w.cell? p ≠ some u) : SlAt (w.setCell p z) v xs := by
  obtain ⟨ao, cap, rfl, hl, hm, hn, hc⟩ := h
  refine ⟨ao, cap, rfl, hl, hm, hn, fun a ha j u hu => ?_⟩
  have hcell := hc a ha j u hu
  have hne : a.add j ≠ p := fun e => hp u (List.mem_of_getElem? hu) (by rw [← e]; exact hcell)
  rw [World.cell?_setCell_other _ _ _ _ (by first | exact hne | exact hne.symm)]
  exact hcell
/-- A cell that holds no byte may be stored into: an address stays. -/
theorem IPAt.set {w : World} {v : Value} {bs : List UInt8} (h : IPAt w v bs) {p : Addr} {z : Value} (hp : ∀ x : UInt8, w.cell? p ≠ some (u8v x)) : IPAt (w.setCell p z) v bs :=
  ⟨h.1.set fun u hu => by
    simp only [ipv, List.mem_map] at hu
    obtain ⟨x, _, rfl⟩ := hu
    exact hp x, h.2⟩
theorem AdAt.set {w : World} {v : Value} {a : Ad} (h : AdAt w v a) {p : Addr} {z : Value} (hp : ∀ x : UInt8, w.cell? p ≠ some (u8v x)) : AdAt (w.setCell p z) v a :=
  h.elim (fun h => .inl (IPAt.set h hp)) (fun h => .inr (IPAt.set h hp))

/-- The world within the closure: the counter's box holds m, all else of old is as it was. -/
structure StepRel (w : World) (B : Nat) (m : Int) (wr : World) : Prop where
  row : wr.heap[B]? = some (.cells #[.int .i64 m] 3 (0, 0))
  rest : w.grownBy wr (some B)
theorem StepRel.on {w w1 w2 : World} {B : Nat} {m : Int} (h : StepRel w B m w1) (hb : Below w1.heap.size w1 w2) : StepRel w B m w2 :=
  ⟨row_on hb h.row, h.rest.andThen (row' := none) ⟨hb.os, hb.tape, hb.output, hb.size, fun k hk _ => hb.block k hk⟩ (fun j hj => by cases hj)⟩
theorem StepRel.store {w w1 : World} {B : Nat} {m : Int} (h : StepRel w B m w1) (m' : Int) : StepRel w B m' (w1.setCell ⟨B, 0, none⟩ (.int .i64 m')) := by
  refine ⟨heap_setCell_same w1 B 0 _ _ _ h.row, h.rest.os, h.rest.tape, h.rest.output, ?_, fun k hk hne => ?_⟩
  · have := h.rest.size; simp; exact this
  · rw [Below.heap_setCell _ _ _ _ (by intro e; exact hne (by rw [e]))]
    exact h.rest.block k hk hne
theorem StepRel.cell {w w1 : World} {B : Nat} {m : Int} (h : StepRel w B m w1) : w1.cell? ⟨B, 0, none⟩ = some (.int .i64 m) := cell_of_row w1 B 0 _ _ _ h.row
theorem StepRel.free {w w1 : World} {B : Nat} {m : Int} (h : StepRel w B m w1) : w1.frozen? ⟨B, 0, none⟩ = false := frozen_of_row w1 B 0 _ _ h.row
theorem StepRel.other {w w1 : World} {B k : Nat} {m : Int} {o : Obj} (h : StepRel w B m w1) (hk : w.heap[k]? = some o) (hne : k ≠ B) : w1.heap[k]? = some o := by
  rw [h.rest.block k (Array.getElem?_eq_some_iff.1 hk).1 (fun e => hne (by simpa using e))]
  exact hk

def Next1 (w : World) (B C : Nat) (l : List UInt8) (w' : World) : Prop := ∃ w1 t, w.grownBy w1 (some B) ∧ bl t = l ∧ w' = w1.setCell ⟨C, 0, none⟩ (.string t)

/-- The address so many steps from another one on. -/
def Ad.plus (a : Ad) (k : Int) : Ad := ⟨a.six, ((a.n : Int) + k).toNat⟩
def Ad.most (a : Ad) : Int := if a.six then 65535 else 4294967295
theorem plus_ok {a : Ad} {k : Int} (h0 : 0 ≤ (a.n : Int) + k) (h1 : (a.n : Int) + k ≤ a.most) : (a.plus k).ok := by
  unfold Ad.ok Ad.plus
  unfold Ad.most at h1
  simp only
  split <;> rename_i hs <;> simp [hs] at h1 <;> omega
theorem plus_zero (a : Ad) : a.plus 0 = a := by
  unfold Ad.plus
  rw [Int.add_zero, Int.toNat_natCast]
theorem plus_up (a : Ad) (k : Int) (h0 : 0 ≤ (a.n : Int) + k) : (a.plus k).up = a.plus (k + 1) := by
  unfold Ad.plus Ad.up
  simp only [Ad.mk.injEq, true_and]
  omega
theorem plus_down (a : Ad) (k : Int) (h0 : 0 < (a.n : Int) + k) : (a.plus k).down = a.plus (k - 1) := by
  unfold Ad.plus Ad.down
  simp only [Ad.mk.injEq, true_and]
  omega
theorem plus_n (a : Ad) (k : Int) (h0 : 0 ≤ (a.n : Int) + k) : ((a.plus k).n : Int) = (a.n : Int) + k := by
  unfold Ad.plus
  simp only
  omega

theorem next1_any (A B C : Nat) (s : ByteArray) (a : Ad) (k : Int) (w : World) (hA : w.heap[A]? = some (.cells #[.string s] 9 (0, 0))) (hB : w.heap[B]? = some (.cells #[.int .i64 k] 3 (0, 0)))
    (hC : w.heap[C]? = some (.cells #[.string ⟨#[]⟩] 9 (0, 0))) (hAB : A ≠ B) (hCB : C ≠ B) (ha : readL (bl s) = some a) (hs : s.size ≤ 1000) (k0 : -300 ≤ k) (k1 : k ≤ 300) (h0 : 0 ≤ (a.n : Int) + k) (h1 : (a.n : Int) + k ≤ a.most) :
    Calls Try.prog 31 #[.pointer (some ⟨A, 0, none⟩), .pointer (some ⟨B, 0, none⟩), .pointer (some ⟨C, 0, none⟩)] w (fun e w' => e = .returned (.tuple #[]) ∧ Next1 w B C (a.plus k).text w') := by
  have hok := readL_ok ha
  have hmost : (a.n : Int) ≤ a.most := by
    unfold Ad.ok at hok
    unfold Ad.most
    split <;> rename_i hsx <;> simp [hsx] at hok <;> omega
  have HO := Lib.hid (fun w => addressOf_any s a w ha hs)
  have HR0 := Lib.hid (show StepRel w B k w from ⟨hB, World.grownBy.refl _ _⟩)
  have HC := Lib.hid hC
  have HCB := Lib.hid hCB
  have HOK := Lib.hid (fun j (x0 : 0 ≤ (a.n : Int) + j) (x1 : (a.n : Int) + j ≤ a.most) => plus_ok (a := a) (k := j) x0 x1)
  have cA : w.cell? ⟨A, 0, none⟩ = some (.string s) := cell_of_row w A 0 _ _ _ hA
  generalize a.most = M at h1 hmost HOK
  clear hA hB hC hok ha hCB
  go_enter Try.func31, Try.ntmps31
  go_wp2_with fail
  refine (HO.out _).mono ?_
  rintro e w1 ⟨v1, rfl, hv1, hb1⟩
  have HV1 := Lib.hid (show AdAt w1 v1 (a.plus 0) by rw [plus_zero]; exact .inl hv1)
  have HR1 := Lib.hid (HR0.out.on hb1)
  clear hv1 hb1 cA
  by_cases hpos : 0 ≤ k
  · go_wp2_with fail
    go_loopw [3] (fun v wr => ∃ m : Int, 0 ≤ m ∧ m ≤ k ∧ wr.cell? ⟨B, 0, none⟩ = some (.int .i64 m) ∧ Hid (AdAt wr v (a.plus (k - m)) ∧ StepRel w B m wr)) (fun _ wr => match wr.cell? ⟨B, 0, none⟩ with | some (.int _ m) => m.toNat | _ => 0)
    case atStart => exact ⟨k, hpos, Int.le_refl _, HR1.out.cell, by rw [Int.sub_self]; exact HV1.out, HR1.out⟩
    case round =>
      obtain ⟨m, m0, mk, cB, hr⟩ := hrel
      have zB := hr.out.2.free
      by_cases hm : 0 < m
      · have t1 : decide ((0 : Int) < m) = true := decide_eq_true hm
        go_wp2_with fail
        refine (NextIP_any _ (a.plus (k - m)) _ hr.out.1 (HOK.out _ (by omega) (by omega))  (by rw [plus_up a _ (by omega)]; exact HOK.out _ (by omega) (by omega))).mono ?_
        rintro e w2 ⟨v2, rfl, hv2, hb2⟩
        rw [plus_up a _ (by omega), show k - m + 1 = k - (m - 1) by omega] at hv2
        have HV2 := Lib.hid (show AdAt w2 v2 (a.plus (k - (m - 1))) from .inr hv2)
        have HR2 := Lib.hid (hr.out.2.on hb2)
        have cB2 := HR2.out.cell
        have zB2 := HR2.out.free
        have HR3 := Lib.hid (HR2.out.store (m - 1))
        have HV3 := Lib.hid (HV2.out.set (p := ⟨B, 0, none⟩) (z := .int .i64 (m - 1)) (by intro x; rw [HR2.out.cell]; simp [u8v]))
        have HC3 := Lib.hid HR3.out.cell
        have hmw : m.toNat + (-m).toNat ≤ 300 := by omega
        have HCW := Lib.hid cB
        clear hv2 hb2 zB cB
        go_wp2_with fail
        go_roundw
        case rel => exact ⟨m - 1, by omega, by omega, HC3.out, HV3.out, HR3.out⟩
        case measure => rw [HC3.out, HCW.out]; simp; omega
      · obtain rfl : m = 0 := by omega
        go_wp2_with fail
        refine wp_loop_rounds 1 ?_
        rw [rounds_succ]
        have cC := cell_of_row _ C 0 _ _ _ (hr.out.2.other HC.out HCB.out)
        have zC := frozen_of_row _ C 0 _ _ (hr.out.2.other HC.out HCB.out)
        go_wp2_with fail
        refine (ipString_any _ (a.plus k) _ (by have := hr.out.1; simpa using this) (HOK.out k h0 h1)).mono ?_
        rintro e w5 ⟨t, rfl, ht, hb5⟩
        have HR5 := Lib.hid (hr.out.2.on hb5)
        have HT := Lib.hid ht
        have cC5 := cell_of_row _ C 0 _ _ _ (HR5.out.other HC.out HCB.out)
        have zC5 := frozen_of_row _ C 0 _ _ (HR5.out.other HC.out HCB.out)
        clear ht hb5 cC zC
        go_wp2_with fail
        go_end0
        exact ⟨rfl, w5, t, HR5.out.rest, HT.out, rfl⟩
  · have t0 : decide ((0 : Int) < k) = false := decide_eq_false (by omega)
    have cB1 := HR1.out.cell
    go_wp2_with fail
    refine wp_loop_rounds 1 ?_
    rw [rounds_succ]
    go_wp2_with fail
    clear cB1 t0
    go_loopw [3] (fun v wr => ∃ m : Int, m ≤ 0 ∧ k ≤ m ∧ wr.cell? ⟨B, 0, none⟩ = some (.int .i64 m) ∧ Hid (AdAt wr v (a.plus (k - m)) ∧ StepRel w B m wr)) (fun _ wr => match wr.cell? ⟨B, 0, none⟩ with | some (.int _ m) => (-m).toNat | _ => 0)
    case atStart => exact ⟨k, (by omega), Int.le_refl _, HR1.out.cell, by rw [Int.sub_self]; exact HV1.out, HR1.out⟩
    case round =>
      obtain ⟨m, m0, mk, cB, hr⟩ := hrel
      have zB := hr.out.2.free
      by_cases hm : m < 0
      · have t1 : decide (m < (0 : Int)) = true := decide_eq_true hm
        go_wp2_with fail
        refine (PrevIP_any _ (a.plus (k - m)) _ hr.out.1 (HOK.out _ (by omega) (by omega)) (by have := plus_n a (k - m) (by omega); omega) (by rw [plus_down a _ (by omega)]; exact HOK.out _ (by omega) (by omega))).mono ?_
        rintro e w2 ⟨v2, rfl, hv2, hb2⟩
        rw [plus_down a _ (by omega), show k - m - 1 = k - (m + 1) by omega] at hv2
        have HV2 := Lib.hid (show AdAt w2 v2 (a.plus (k - (m + 1))) from .inr hv2)
        have HR2 := Lib.hid (hr.out.2.on hb2)
        have cB2 := HR2.out.cell
        have zB2 := HR2.out.free
        have HR3 := Lib.hid (HR2.out.store (m + 1))
        have HV3 := Lib.hid (HV2.out.set (p := ⟨B, 0, none⟩) (z := .int .i64 (m + 1)) (by intro x; rw [HR2.out.cell]; simp [u8v]))
        have HC3 := Lib.hid HR3.out.cell
        have hmw : m.toNat + (-m).toNat ≤ 300 := by omega
        have HCW := Lib.hid cB
        clear hv2 hb2 zB cB
        go_wp2_with fail
        go_roundw
        case rel => exact ⟨m + 1, by omega, by omega, HC3.out, HV3.out, HR3.out⟩
        case measure => rw [HC3.out, HCW.out]; simp; omega
      · obtain rfl : m = 0 := by omega
        have cC := cell_of_row _ C 0 _ _ _ (hr.out.2.other HC.out HCB.out)
        have zC := frozen_of_row _ C 0 _ _ (hr.out.2.other HC.out HCB.out)
        go_wp2_with fail
        refine (ipString_any _ (a.plus k) _ (by have := hr.out.1; simpa using this) (HOK.out k h0 h1)).mono ?_
        rintro e w5 ⟨t, rfl, ht, hb5⟩
        have HR5 := Lib.hid (hr.out.2.on hb5)
        have HT := Lib.hid ht
        have cC5 := cell_of_row _ C 0 _ _ _ (HR5.out.other HC.out HCB.out)
        have zC5 := frozen_of_row _ C 0 _ _ (HR5.out.other HC.out HCB.out)
        clear ht hb5 cC zC
        go_wp2_with fail
        go_end0
        exact ⟨rfl, w5, t, HR5.out.rest, HT.out, rfl⟩

end Go.Proofs.Ytnehofekgnbelaa

/-
  impl.netOf of a net's text.
-/
namespace Go.Proofs.Ytnehofekgnbelaa
open Go.RowKit
set_option linter.unusedVariables false
set_option maxRecDepth 100000
set_option maxHeartbeats 1000000

def NetPost (w : World) (a : Ad) (free : Nat) (e : Ending) (w' : World) : Prop :=
  ∃ vi vm, e = .returned (.tuple #[.agg #[vi, vm], .bool true]) ∧ LongAt w' vi a ∧ IPAt w' vm (a.mask free) ∧ Below w.heap.size w w'

theorem netOf_any (s : ByteArray) (a : Ad) (free : Nat) (w : World) (hs : s.size ≤ 1000) (h : NetOf (bl s) a free) :
    Calls Try.prog 76 #[.string s] w (NetPost w a free) := by
  have HC := Lib.hid (fun w => parseCIDR_any s a free w hs h)
  clear h
  go_enter Try.func76, Try.ntmps76
  go_wp2_with fail
  refine (HC.out _).mono ?_
  rintro e w1 ⟨v, vi, vm, b, rfl, hv, hrow, hm, hb1⟩
  have hk := nz5_old' hb1
  have HV := Lib.hid hv
  have HM := Lib.hid hm
  have HB := Lib.hid hk.2
  obtain ⟨bm, om, cm, rfl, _⟩ := IPAt.out hm
  obtain ⟨bv, ov, cv, rfl, _⟩ := IPAt.out hv
  have q0 : w1.cell? ⟨w.heap.size, 0, none⟩ = some (.slice none 0 0) := cell_of_row w1 _ 0 _ _ _ hk.1
  have q1 : w1.cell? ⟨w.heap.size, 1, none⟩ = some (.slice none 0 0) := cell_of_row w1 _ 1 _ _ _ hk.1
  have f0 : w1.frozen? ⟨w.heap.size, 0, none⟩ = false := frozen_of_row w1 _ 0 _ _ hk.1
  have f1 : w1.frozen? ⟨w.heap.size, 1, none⟩ = false := frozen_of_row w1 _ 1 _ _ hk.1
  have c1 : w1.cell? ⟨b, 1, none⟩ = some _ := cell_of_row w1 _ 1 _ _ _ hrow
  have c0 : w1.cell? ⟨b, 0, none⟩ = some _ := cell_of_row w1 _ 0 _ _ _ hrow
  clear hk hb1 hv hm hrow
  go_wp2_with fail
  refine (plain_any _ a _ HV.out).mono ?_
  rintro e w2 ⟨rfl, rfl⟩
  go_wp2_with fail
  have hs0 : ∀ x : UInt8, w1.cell? ⟨w.heap.size, 0, none⟩ ≠ some (u8v x) := fun x => by rw [q0]; simp [u8v]
  have hs1 : ∀ z, ∀ x : UInt8, (w1.setCell ⟨w.heap.size, 0, none⟩ z).cell? ⟨w.heap.size, 1, none⟩ ≠ some (u8v x) := fun z x => by rw [World.cell?_setCell_other _ _ _ _ (by simp), q1]; simp [u8v]
  refine bodyPost_ret (v := .tuple #[.agg #[.slice (some ⟨bv, ov, none⟩) a.long.length cv, .slice (some ⟨bm, om, none⟩) (a.mask free).length cm], .bool true]) (by simp [results, Try.results76, go_sem, q0, q1]) rfl ⟨_, _, rfl, ?_, ?_, ?_⟩
  · exact IPAt.set (IPAt.set HV.out hs0) (hs1 _)
  · exact IPAt.set (IPAt.set HM.out hs0) (hs1 _)
  · exact (HB.out.setCell (Nat.le_refl _) _).setCell (Nat.le_refl _) _

end Go.Proofs.Ytnehofekgnbelaa

/-
  impl.rangeOf of a range's texts.
-/
namespace Go.Proofs.Ytnehofekgnbelaa
open Go.RowKit
set_option linter.unusedVariables false
set_option maxRecDepth 100000
set_option maxHeartbeats 1000000

theorem three_kept {w w2 : World} {o1 o2 o3 : Obj} (hb : Below (((w.alloc o1).alloc o2).alloc o3).heap.size (((w.alloc o1).alloc o2).alloc o3) w2) :
    w2.heap[w.heap.size]? = some o1 ∧ w2.heap[w.heap.size + 1]? = some o2 ∧ Below w.heap.size w w2 ∧ w.heap.size + 2 < w2.heap.size := by
  have h3 : Below ((w.alloc o1).alloc o2).heap.size ((w.alloc o1).alloc o2) w2 := below_tr ((Below.refl _ _).alloc (Nat.le_refl _) _) hb
  obtain ⟨h1, h2, h4⟩ := two_kept' h3
  exact ⟨h1, h2, h4, by have := hb.size; simp at this; omega⟩

/-- A text that is an address, or nothing. -/
def TextIs (s : ByteArray) : Option Ad → Prop
  | none => s.size = 0
  | some a => readL (bl s) = some a
def OptAt (w : World) (v : Value) : Option Ad → Prop
  | none => v = .slice none 0 0
  | some a => AdAt w v a
theorem OptAt.keep {w w' : World} {v : Value} {o : Option Ad} (h : OptAt w v o) (hb : Below w.heap.size w w') : OptAt w' v o := by
  cases o with
  | none => exact h
  | some a => exact AdAt.keep h hb
theorem OptAt.set {w : World} {v : Value} {o : Option Ad} (h : OptAt w v o) {p : Addr} {z : Value} (hp : ∀ x : UInt8, w.cell? p ≠ some (u8v x)) : OptAt (w.setCell p z) v o := by
  cases o with
  | none => exact h
  | some a => exact AdAt.set h hp
theorem AdAt.slice {w : World} {v : Value} {a : Ad} (h : AdAt w v a) : ∃ b o n c, v = .slice (some ⟨b, o, none⟩) n c := by
  rcases h with h | h
  · obtain ⟨b, o, c, rfl, _⟩ := IPAt.out h; exact ⟨b, o, _, c, rfl⟩
  · obtain ⟨b, o, c, rfl, _⟩ := IPAt.out h; exact ⟨b, o, _, c, rfl⟩
theorem OptAt.slice {w : World} {v : Value} {o : Option Ad} (h : OptAt w v o) : ∃ b n c, v = .slice b n c := by
  cases o with
  | none => exact ⟨_, _, _, h⟩
  | some a => obtain ⟨b, o, n, c, rfl⟩ := AdAt.slice h; exact ⟨_, _, _, rfl⟩

/-- What the texts of a range tell. -/
structure RIn where
  a : Ad
  free : Nat
  o1 : Option Ad
  o2 : Option Ad
  o3 : Option Ad
structure RTexts (s0 s1 s2 s3 : ByteArray) (R : RIn) : Prop where
  net : NetOf (bl s0) R.a R.free
  short : s0.size ≤ 64
  t1 : TextIs s1 R.o1
  t2 : TextIs s2 R.o2
  t3 : TextIs s3 R.o3
theorem TextIs.short {s : ByteArray} {o : Option Ad} (h : TextIs s o) : s.size ≤ 64 := by
  cases o with
  | none => have : s.size = 0 := h; omega
  | some a => have := addr_length (a := a) h; omega

/-- The world within: the three texts and where they go, the range so far. -/
structure RgRel (w : World) (BA BO : Nat) (s1 s2 s3 : ByteArray) (R : RIn) (vi vm : Value) (i : Nat) (wr : World) : Prop where
  arr : wr.heap[BA]? = some (.cells #[.string s1, .pointer (some ⟨BO, 0, none⟩), .string s2, .pointer (some ⟨BO, 1, none⟩), .string s3, .pointer (some ⟨BO, 4, none⟩)] 118 (0, 0))
  out : ∃ v0 v1 v4, wr.heap[BO]? = some (.cells #[v0, v1, vi, vm, v4] 62 (0, 0)) ∧ OptAt wr v0 (if 0 < i then R.o1 else none) ∧ OptAt wr v1 (if 1 < i then R.o2 else none) ∧ OptAt wr v4 (if 2 < i then R.o3 else none)
  res : wr.heap[w.heap.size + 1]? = some (.cells #[.slice none 0 0, .slice none 0 0, .slice none 0 0, .slice none 0 0, .slice none 0 0] 62 (0, 0))
  long : LongAt wr vi R.a
  mask : IPAt wr vm (R.a.mask R.free)
  below : Below w.heap.size w wr
  lo : w.heap.size ≤ BO
  ao : BA ≠ BO
  ro : w.heap.size + 1 ≠ BO

theorem slat_four_at (W : World) (b : Nat) (s0 s1 s2 s3 : ByteArray) (hb : W.heap.size = b) : SlAt (W.alloc (.cells #[.string s0, .string s1, .string s2, .string s3] 9)) (.slice (some ⟨b, 0, none⟩) 4 4) (strVals [s0, s1, s2, s3]) := by
  subst hb
  exact SlAt.mk (xs := strVals [s0, s1, s2, s3]) (by simp [strVals]) (by unfold maxLen; simp) fun i hi => by
    have : i = 0 ∨ i = 1 ∨ i = 2 ∨ i = 3 := by simp [strVals] at hi; omega
    rcases this with rfl | rfl | rfl | rfl <;> simp [strVals, go_sem]

def RangePost (w : World) (R : RIn) (e : Ending) (w' : World) : Prop :=
  ∃ v0 v1 vi vm v4, e = .returned (.tuple #[.agg #[v0, v1, vi, vm, v4], .bool true]) ∧ OptAt w' v0 R.o1 ∧ OptAt w' v1 R.o2 ∧ OptAt w' v4 R.o3 ∧ LongAt w' vi R.a ∧ IPAt w' vm (R.a.mask R.free) ∧ Below w.heap.size w w'

theorem three_alloc (w1 : World) (o1 o2 o3 : Obj) : (((w1.alloc o1).alloc o2).alloc o3).heap[w1.heap.size + 1]? = some o2 ∧ (((w1.alloc o1).alloc o2).alloc o3).heap[w1.heap.size + 1 + 1]? = some o3 ∧ Below w1.heap.size w1 (((w1.alloc o1).alloc o2).alloc o3) := by
  refine ⟨?_, ?_, (((Below.refl w1.heap.size w1).alloc (Nat.le_refl _) _).alloc (by simp) _).alloc (by simp; omega) _⟩
  · rw [heap_alloc_old _ _ (by simp)]
    have h := heap_alloc_new (w1.alloc o1) o2
    rw [World.size_alloc] at h
    exact h
  · have h := heap_alloc_new ((w1.alloc o1).alloc o2) o3
    rw [World.size_alloc, World.size_alloc] at h
    exact h
section
variable {w wr w2 : World} {BA BO : Nat} {s1 s2 s3 : ByteArray} {R : RIn} {vi vm : Value} {i : Nat}
theorem RgRel.on (h : RgRel w BA BO s1 s2 s3 R vi vm i wr) (hb : Below wr.heap.size wr w2) : RgRel w BA BO s1 s2 s3 R vi vm i w2 := by
  obtain ⟨v0, v1, v4, hr, h0, h1, h4⟩ := h.out
  exact ⟨row_on hb h.arr, ⟨v0, v1, v4, row_on hb hr, h0.keep hb, h1.keep hb, h4.keep hb⟩, row_on hb h.res, IPAt.keep h.long hb, IPAt.keep h.mask hb, below_tr h.below hb, h.lo, h.ao, h.ro⟩
theorem RgRel.put {v0 v1 v4 x0 x1 x4 v : Value} {k : Nat} {j : Nat} (h : RgRel w BA BO s1 s2 s3 R vi vm i wr) (hr : wr.heap[BO]? = some (.cells #[v0, v1, vi, vm, v4] 62 (0, 0)))
    (hset : (#[v0, v1, vi, vm, v4] : Array Value).setIfInBounds k v = #[x0, x1, vi, vm, x4]) (hold : (#[v0, v1, vi, vm, v4] : Array Value)[k]? = some (.slice none 0 0))
    (h0 : OptAt wr x0 (if 0 < j then R.o1 else none)) (h1 : OptAt wr x1 (if 1 < j then R.o2 else none)) (h4 : OptAt wr x4 (if 2 < j then R.o3 else none)) : RgRel w BA BO s1 s2 s3 R vi vm j (wr.setCell ⟨BO, k, none⟩ v) := by
  have hc : ∀ x : UInt8, wr.cell? ⟨BO, k, none⟩ ≠ some (u8v x) := fun x => by
    rw [cell_of_row wr BO k _ _ _ hr, hold]
    simp [u8v]
  have hs := heap_setCell_same wr BO k _ _ v hr
  rw [hset] at hs
  refine ⟨?_, ⟨x0, x1, x4, hs, h0.set hc, h1.set hc, h4.set hc⟩, ?_, IPAt.set h.long hc, IPAt.set h.mask hc, h.below.setCell h.lo _, h.lo, h.ao, h.ro⟩
  · rw [Below.heap_setCell _ _ _ _ h.ao]; exact h.arr
  · rw [Below.heap_setCell _ _ _ _ h.ro]; exact h.res
theorem RgRel.to {j : Nat} (h : RgRel w BA BO s1 s2 s3 R vi vm i wr) (e0 : (if 0 < j then R.o1 else none) = (if 0 < i then R.o1 else none)) (e1 : (if 1 < j then R.o2 else none) = (if 1 < i then R.o2 else none)) (e4 : (if 2 < j then R.o3 else none) = (if 2 < i then R.o3 else none)) : RgRel w BA BO s1 s2 s3 R vi vm j wr := by
  obtain ⟨v0, v1, v4, hr, h0, h1, h4⟩ := h.out
  exact ⟨h.arr, ⟨v0, v1, v4, hr, by rw [e0]; exact h0, by rw [e1]; exact h1, by rw [e4]; exact h4⟩, h.res, h.long, h.mask, h.below, h.lo, h.ao, h.ro⟩
end
theorem nocell_set {w : World} {p q : Addr} {z : Value} (h : ∀ x : UInt8, w.cell? p ≠ some (u8v x)) (hne : p ≠ q) : ∀ x : UInt8, (w.setCell q z).cell? p ≠ some (u8v x) := fun x => by
  rw [World.cell?_setCell_other _ _ _ _ hne.symm]; exact h x
theorem set5_kept {w : World} {B : Nat} (h : w.heap[B]? = some (.cells #[.slice none 0 0, .slice none 0 0, .slice none 0 0, .slice none 0 0, .slice none 0 0] 62 (0, 0))) :
    (∀ a b c d e v o, OptAt w v o → OptAt (((((w.setCell ⟨B, 0, none⟩ a).setCell ⟨B, 1, none⟩ b).setCell ⟨B, 2, none⟩ c).setCell ⟨B, 3, none⟩ d).setCell ⟨B, 4, none⟩ e) v o) ∧
    (∀ a b c d e v l, IPAt w v l → IPAt (((((w.setCell ⟨B, 0, none⟩ a).setCell ⟨B, 1, none⟩ b).setCell ⟨B, 2, none⟩ c).setCell ⟨B, 3, none⟩ d).setCell ⟨B, 4, none⟩ e) v l) := by
  obtain ⟨c0, c1, c2, c3, c4⟩ := row5_facts h
  have g0 : ∀ x : UInt8, w.cell? ⟨B, 0, none⟩ ≠ some (u8v x) := fun x => by rw [c0]; simp [u8v]
  have g1 : ∀ x : UInt8, w.cell? ⟨B, 1, none⟩ ≠ some (u8v x) := fun x => by rw [c1]; simp [u8v]
  have g2 : ∀ x : UInt8, w.cell? ⟨B, 2, none⟩ ≠ some (u8v x) := fun x => by rw [c2]; simp [u8v]
  have g3 : ∀ x : UInt8, w.cell? ⟨B, 3, none⟩ ≠ some (u8v x) := fun x => by rw [c3]; simp [u8v]
  have g4 : ∀ x : UInt8, w.cell? ⟨B, 4, none⟩ ≠ some (u8v x) := fun x => by rw [c4]; simp [u8v]
  constructor
  · intro a b c d e v o ho
    exact ((((ho.set g0).set (nocell_set g1 (by simp))).set (nocell_set (nocell_set g2 (by simp)) (by simp))).set (nocell_set (nocell_set (nocell_set g3 (by simp)) (by simp)) (by simp))).set (nocell_set (nocell_set (nocell_set (nocell_set g4 (by simp)) (by simp)) (by simp)) (by simp))
  · intro a b c d e v l ho
    exact ((((ho.set g0).set (nocell_set g1 (by simp))).set (nocell_set (nocell_set g2 (by simp)) (by simp))).set (nocell_set (nocell_set (nocell_set g3 (by simp)) (by simp)) (by simp))).set (nocell_set (nocell_set (nocell_set (nocell_set g4 (by simp)) (by simp)) (by simp)) (by simp))
theorem text_none {s : ByteArray} (h : TextIs s none) : s.toList.isEmpty = true := by
  have h0 : s.size = 0 := h
  rw [Lib.toList_data, List.isEmpty_iff]
  exact List.eq_nil_of_length_eq_zero (by rw [← bl_length] at h0; exact h0)
theorem read_pos {l : List UInt8} {a : Ad} (h : readL l = some a) : l ≠ [] := by
  rintro rfl
  have h0 : readL [] = none := by decide
  rw [h0] at h
  cases h
theorem text_some {s : ByteArray} {a : Ad} (h : TextIs s (some a)) : s.toList.isEmpty = false := by
  have h0 : readL (bl s) = some a := h
  rw [Lib.toList_data, List.isEmpty_eq_false_iff]
  exact read_pos h0

theorem rangeOf_any (s0 s1 s2 s3 : ByteArray) (R : RIn) (w : World) (h : RTexts s0 s1 s2 s3 R) :
    Calls Try.prog 58 #[.agg #[.string s0, .string s1, .string s2, .string s3]] w (RangePost w R) := by
  have HL := Lib.hid (longIn_small [s0, s1, s2, s3] (by
    intro x hx
    simp only [List.mem_cons, List.not_mem_nil, or_false] at hx
    rcases hx with rfl | rfl | rfl | rfl
    · exact h.short
    · exact h.t1.short
    · exact h.t2.short
    · exact h.t3.short))
  have HN := Lib.hid (fun w => netOf_any s0 R.a R.free w (by have := h.short; omega) h.net)
  have H := Lib.hid h
  clear h
  go_enter Try.func58, Try.ntmps58
  go_wp2_with fail
  refine (short_yes _ [s0, s1, s2, s3] _ (slat_four_at _ _ _ _ _ _ (by simp)) HL.out).mono ?_
  rintro e w' ⟨rfl, rfl⟩
  go_wp2_with fail
  refine (HN.out _).mono ?_
  rintro e w1 ⟨vi, vm, rfl, hvi, hvm, hb1⟩
  obtain ⟨k1, k2, kw, klt⟩ := three_kept hb1
  have c0 : w1.cell? ⟨w.heap.size, 0, none⟩ = some (.string s0) := cell_of_row w1 _ 0 _ _ _ k1
  have c1 : w1.cell? ⟨w.heap.size, 1, none⟩ = some (.string s1) := cell_of_row w1 _ 1 _ _ _ k1
  have c2 : w1.cell? ⟨w.heap.size, 2, none⟩ = some (.string s2) := cell_of_row w1 _ 2 _ _ _ k1
  have c3 : w1.cell? ⟨w.heap.size, 3, none⟩ = some (.string s3) := cell_of_row w1 _ 3 _ _ _ k1
  have HVI := Lib.hid hvi
  have HVM := Lib.hid hvm
  have HK2 := Lib.hid k2
  have HKW := Lib.hid kw
  obtain ⟨bv, ov, cv, rfl, _⟩ := IPAt.out hvi
  obtain ⟨bm, om, cm, rfl, _⟩ := IPAt.out hvm
  have kl : w.heap.size < w1.heap.size := by omega
  clear k1 k2 kw hb1 hvi hvm
  go_wp2_with fail
  have h3 := three_alloc w1 (.cells #[.slice (some ⟨bv, ov, none⟩) R.a.long.length cv, .slice (some ⟨bm, om, none⟩) (R.a.mask R.free).length cm] 96) (.cells #[.slice none 0 0, .slice none 0 0, .slice (some ⟨bv, ov, none⟩) R.a.long.length cv, .slice (some ⟨bm, om, none⟩) (R.a.mask R.free).length cm, .slice none 0 0] 62) (.cells #[.string s1, .pointer (some ⟨w1.heap.size + 1, 0, none⟩), .string s2, .pointer (some ⟨w1.heap.size + 1, 1, none⟩), .string s3, .pointer (some ⟨w1.heap.size + 1, 4, none⟩)] 118)
  have HST := Lib.hid (show RgRel w (w1.heap.size + 1 + 1) (w1.heap.size + 1) s1 s2 s3 R (.slice (some ⟨bv, ov, none⟩) R.a.long.length cv) (.slice (some ⟨bm, om, none⟩) (R.a.mask R.free).length cm) 0 _ from
    ⟨h3.2.1, ⟨.slice none 0 0, .slice none 0 0, .slice none 0 0, h3.1, rfl, rfl, rfl⟩, row_on h3.2.2 HK2.out, IPAt.keep HVI.out h3.2.2, IPAt.keep HVM.out h3.2.2, below_tr HKW.out h3.2.2, by omega, by omega, by omega⟩)
  clear h3
  have hnil := fun w a n c => run_neq_slice_nil_any (P := Try.prog) w 46 5 a n c 0 0 Try.underlying46
  clear c0 c1 c2 c3
  go_loopw [5, 43] (fun ok p wr => ∃ i : Nat, i ≤ 3 ∧ p = .int .i64 i ∧ ok = .bool true ∧ Hid (RgRel w (w1.heap.size + 1 + 1) (w1.heap.size + 1) s1 s2 s3 R (.slice (some ⟨bv, ov, none⟩) R.a.long.length cv) (.slice (some ⟨bm, om, none⟩) (R.a.mask R.free).length cm) i wr)) (fun _ p _ => 3 - (intOf p).toNat)
  case atStart => exact ⟨0, by omega, rfl, rfl, HST.out⟩
  case round =>
    obtain ⟨i, hi, rfl, rfl, hr⟩ := hrel
    have harr := hr.out.arr
    have hsz := (Array.getElem?_eq_some_iff.1 harr).1
    have a0 : wr.cell? ⟨w1.heap.size + 1 + 1, 0, none⟩ = some _ := cell_of_row wr _ 0 _ _ _ harr
    have a1 : wr.cell? ⟨w1.heap.size + 1 + 1, 1, none⟩ = some _ := cell_of_row wr _ 1 _ _ _ harr
    have a2 : wr.cell? ⟨w1.heap.size + 1 + 1, 2, none⟩ = some _ := cell_of_row wr _ 2 _ _ _ harr
    have a3 : wr.cell? ⟨w1.heap.size + 1 + 1, 3, none⟩ = some _ := cell_of_row wr _ 3 _ _ _ harr
    have a4 : wr.cell? ⟨w1.heap.size + 1 + 1, 4, none⟩ = some _ := cell_of_row wr _ 4 _ _ _ harr
    have a5 : wr.cell? ⟨w1.heap.size + 1 + 1, 5, none⟩ = some _ := cell_of_row wr _ 5 _ _ _ harr
    clear harr
    obtain rfl | rfl | rfl | rfl : i = 0 ∨ i = 1 ∨ i = 2 ∨ i = 3 := by omega
    · cases ho : R.o1 with
        | none =>
          have ht := H.out.t1
          rw [ho] at ht
          have t1 := text_none ht
          have HN2 := Lib.hid (hr.out.to (j := 1) (by simp [ho]) (by simp) (by simp))
          have HO := Lib.hid ho
          clear ho ht
          go_wp2_with fail
          go_roundw
          case rel => exact ⟨1, by omega, rfl, rfl, HN2.out.on ((Below.refl _ _).alloc (Nat.le_refl _) _)⟩
          case measure => simp [intOf]
        | some x =>
          have ht := H.out.t1
          rw [ho] at ht
          have t1 := text_some ht
          have ne1 : wr.heap.size ≠ w1.heap.size + 1 := by omega
          have ne2 : w1.heap.size + 1 ≠ wr.heap.size := by omega
          have HA := Lib.hid (fun w => addressOf_any s1 x w ht (by have := addr_length (a := x) ht; omega))
          have HO := Lib.hid ho
          clear ho ht
          go_wp2_with fail
          go_region_held3 (fun w' => w'.cell? ⟨wr.heap.size, 0, none⟩ = some (.string s1) ∧ w'.cell? ⟨wr.heap.size, 1, none⟩ = some (.pointer (some ⟨w1.heap.size + 1, 0, none⟩))) (go_keep) (first | (go_at_call 26; refine (HA.out _).mono ?_; rintro e w2 ⟨v, rfl, hv, hb⟩; obtain ⟨kx, kb⟩ := one_kept hb; have HR2 := Lib.hid (hr.out.on kb); have HV := Lib.hid hv; obtain ⟨v0, v1, v4, hrow, h0, h1, h4⟩ := HR2.out.out; obtain rfl : v0 = .slice none 0 0 := (by simpa [OptAt] using h0); have HROW := Lib.hid hrow; have H014 := Lib.hid (And.intro h0 (And.intro h1 h4)); obtain ⟨bq, oq, cq, rfl, _⟩ := IPAt.out hv; have d0 : w2.cell? ⟨wr.heap.size, 0, none⟩ = some _ := cell_of_row w2 _ 0 _ _ _ kx; have d1 : w2.cell? ⟨wr.heap.size, 1, none⟩ = some _ := cell_of_row w2 _ 1 _ _ _ kx; have d2 : w2.cell? ⟨w1.heap.size + 1, 0, none⟩ = some (.slice none 0 0) := cell_of_row w2 _ 0 _ _ _ hrow; have z2 : w2.frozen? ⟨w1.heap.size + 1, 0, none⟩ = false := frozen_of_row w2 _ 0 _ _ hrow; clear hb kx kb hv hrow h0 h1 h4))
          go_wp2_with fail
          go_roundw
          case rel => exact ⟨1, by omega, rfl, rfl, HR2.out.put HROW.out rfl rfl (by rw [if_pos (by omega), HO.out]; exact .inl HV.out) (by simpa using H014.out.2.1) (by simpa using H014.out.2.2)⟩
          case measure => simp [intOf]
    · cases ho : R.o2 with
        | none =>
          have ht := H.out.t2
          rw [ho] at ht
          have t1 := text_none ht
          have HN2 := Lib.hid (hr.out.to (j := 2) (by simp) (by simp [ho]) (by simp))
          have HO := Lib.hid ho
          clear ho ht
          go_wp2_with fail
          go_roundw
          case rel => exact ⟨2, by omega, rfl, rfl, HN2.out.on ((Below.refl _ _).alloc (Nat.le_refl _) _)⟩
          case measure => simp [intOf]
        | some x =>
          have ht := H.out.t2
          rw [ho] at ht
          have t1 := text_some ht
          have ne1 : wr.heap.size ≠ w1.heap.size + 1 := by omega
          have ne2 : w1.heap.size + 1 ≠ wr.heap.size := by omega
          have HA := Lib.hid (fun w => addressOf_any s2 x w ht (by have := addr_length (a := x) ht; omega))
          have HO := Lib.hid ho
          clear ho ht
          go_wp2_with fail
          go_region_held3 (fun w' => w'.cell? ⟨wr.heap.size, 0, none⟩ = some (.string s2) ∧ w'.cell? ⟨wr.heap.size, 1, none⟩ = some (.pointer (some ⟨w1.heap.size + 1, 1, none⟩))) (go_keep) (first | (go_at_call 26; refine (HA.out _).mono ?_; rintro e w2 ⟨v, rfl, hv, hb⟩; obtain ⟨kx, kb⟩ := one_kept hb; have HR2 := Lib.hid (hr.out.on kb); have HV := Lib.hid hv; obtain ⟨v0, v1, v4, hrow, h0, h1, h4⟩ := HR2.out.out; obtain rfl : v1 = .slice none 0 0 := (by simpa [OptAt] using h1); have HROW := Lib.hid hrow; have H014 := Lib.hid (And.intro h0 (And.intro h1 h4)); obtain ⟨bq, oq, cq, rfl, _⟩ := IPAt.out hv; have d0 : w2.cell? ⟨wr.heap.size, 0, none⟩ = some _ := cell_of_row w2 _ 0 _ _ _ kx; have d1 : w2.cell? ⟨wr.heap.size, 1, none⟩ = some _ := cell_of_row w2 _ 1 _ _ _ kx; have d2 : w2.cell? ⟨w1.heap.size + 1, 1, none⟩ = some (.slice none 0 0) := cell_of_row w2 _ 1 _ _ _ hrow; have z2 : w2.frozen? ⟨w1.heap.size + 1, 1, none⟩ = false := frozen_of_row w2 _ 1 _ _ hrow; clear hb kx kb hv hrow h0 h1 h4))
          go_wp2_with fail
          go_roundw
          case rel => exact ⟨2, by omega, rfl, rfl, HR2.out.put HROW.out rfl rfl (by simpa using H014.out.1) (by rw [if_pos (by omega), HO.out]; exact .inl HV.out) (by simpa using H014.out.2.2)⟩
          case measure => simp [intOf]
    · cases ho : R.o3 with
        | none =>
          have ht := H.out.t3
          rw [ho] at ht
          have t1 := text_none ht
          have HN2 := Lib.hid (hr.out.to (j := 3) (by simp) (by simp) (by simp [ho]))
          have HO := Lib.hid ho
          clear ho ht
          go_wp2_with fail
          go_roundw
          case rel => exact ⟨3, by omega, rfl, rfl, HN2.out.on ((Below.refl _ _).alloc (Nat.le_refl _) _)⟩
          case measure => simp [intOf]
        | some x =>
          have ht := H.out.t3
          rw [ho] at ht
          have t1 := text_some ht
          have ne1 : wr.heap.size ≠ w1.heap.size + 1 := by omega
          have ne2 : w1.heap.size + 1 ≠ wr.heap.size := by omega
          have HA := Lib.hid (fun w => addressOf_any s3 x w ht (by have := addr_length (a := x) ht; omega))
          have HO := Lib.hid ho
          clear ho ht
          go_wp2_with fail
          go_region_held3 (fun w' => w'.cell? ⟨wr.heap.size, 0, none⟩ = some (.string s3) ∧ w'.cell? ⟨wr.heap.size, 1, none⟩ = some (.pointer (some ⟨w1.heap.size + 1, 4, none⟩))) (go_keep) (first | (go_at_call 26; refine (HA.out _).mono ?_; rintro e w2 ⟨v, rfl, hv, hb⟩; obtain ⟨kx, kb⟩ := one_kept hb; have HR2 := Lib.hid (hr.out.on kb); have HV := Lib.hid hv; obtain ⟨v0, v1, v4, hrow, h0, h1, h4⟩ := HR2.out.out; obtain rfl : v4 = .slice none 0 0 := (by simpa [OptAt] using h4); have HROW := Lib.hid hrow; have H014 := Lib.hid (And.intro h0 (And.intro h1 h4)); obtain ⟨bq, oq, cq, rfl, _⟩ := IPAt.out hv; have d0 : w2.cell? ⟨wr.heap.size, 0, none⟩ = some _ := cell_of_row w2 _ 0 _ _ _ kx; have d1 : w2.cell? ⟨wr.heap.size, 1, none⟩ = some _ := cell_of_row w2 _ 1 _ _ _ kx; have d2 : w2.cell? ⟨w1.heap.size + 1, 4, none⟩ = some (.slice none 0 0) := cell_of_row w2 _ 4 _ _ _ hrow; have z2 : w2.frozen? ⟨w1.heap.size + 1, 4, none⟩ = false := frozen_of_row w2 _ 4 _ _ hrow; clear hb kx kb hv hrow h0 h1 h4))
          go_wp2_with fail
          go_roundw
          case rel => exact ⟨3, by omega, rfl, rfl, HR2.out.put HROW.out rfl rfl (by simpa using H014.out.1) (by simpa using H014.out.2.1) (by rw [if_pos (by omega), HO.out]; exact .inl HV.out)⟩
          case measure => simp [intOf]
    · obtain ⟨v0, v1, v4, hrow, h0, h1, h4⟩ := hr.out.out
      have h0' : OptAt wr v0 R.o1 := by simpa using h0
      have h1' : OptAt wr v1 R.o2 := by simpa using h1
      have h4' : OptAt wr v4 R.o3 := by simpa using h4
      have HO0 := Lib.hid h0'
      have HO1 := Lib.hid h1'
      have HO4 := Lib.hid h4'
      obtain ⟨b0, n0, k0, rfl⟩ := h0'.slice
      obtain ⟨b1, n1, k1, rfl⟩ := h1'.slice
      obtain ⟨b4, n4, k4, rfl⟩ := h4'.slice
      obtain ⟨d0, d1, d2, d3, d4⟩ := row5_facts hrow
      obtain ⟨q0, q1, q2, q3, q4⟩ := row5_facts hr.out.res
      have f0 := frozen_of_row wr _ 0 _ _ hr.out.res
      have f1 := frozen_of_row wr _ 1 _ _ hr.out.res
      have f2 := frozen_of_row wr _ 2 _ _ hr.out.res
      have f3 := frozen_of_row wr _ 3 _ _ hr.out.res
      have f4 := frozen_of_row wr _ 4 _ _ hr.out.res
      have HS := Lib.hid (set5_kept (w := wr) (B := w.heap.size + 1) hr.out.res)
      have HBW := Lib.hid hr.out.below
      have HLG := Lib.hid hr.out.long
      have HMS := Lib.hid hr.out.mask
      clear h0 h1 h4 h0' h1' h4' hrow a0 a1 a2 a3 a4 a5
      go_wp2_with fail
      refine bodyPost_ret (v := .tuple #[.agg #[.slice b0 n0 k0, .slice b1 n1 k1, .slice (some ⟨bv, ov, none⟩) R.a.long.length cv, .slice (some ⟨bm, om, none⟩) (R.a.mask R.free).length cm, .slice b4 n4 k4], .bool true]) (by simp [results, Try.results58, go_sem, q0, q1, q2, q3, q4]) rfl ⟨_, _, _, _, _, rfl, ?_, ?_, ?_, ?_, ?_, ?_⟩
      · exact HS.out.1 _ _ _ _ _ _ _ HO0.out
      · exact HS.out.1 _ _ _ _ _ _ _ HO1.out
      · exact HS.out.1 _ _ _ _ _ _ _ HO4.out
      · exact HS.out.2 _ _ _ _ _ _ _ HLG.out
      · exact HS.out.2 _ _ _ _ _ _ _ HMS.out
      · exact below_set5 HBW.out (by omega) _ _ _ _ _

end Go.Proofs.Ytnehofekgnbelaa

/-
  allocator.canonicalizeIP; net's networkNumberAndMask, IPNet.Contains.
-/
namespace Go.Proofs.Ytnehofekgnbelaa
open Go.RowKit
set_option linter.unusedVariables false
set_option maxRecDepth 100000
set_option maxHeartbeats 1000000

def CanPost (w : World) (p : Addr) (a : Ad) (e : Ending) (w' : World) : Prop := ∃ v', e = .returned .nilIface ∧ BriefAt w v' a ∧ w' = w.setCell p v'

theorem six_brief {w : World} {v : Value} {n : Nat} (h : AdAt w v ⟨true, n⟩) : BriefAt w v ⟨true, n⟩ := h.elim (fun h => h) (fun h => h)

theorem canonIP_any (B k : Nat) (v : Value) (a : Ad) (w : World) (hc : w.cell? ⟨B, k, none⟩ = some v) (hz : w.frozen? ⟨B, k, none⟩ = false) (h : AdAt w v a) :
    Calls Try.prog 61 #[.pointer (some ⟨B, k, none⟩)] w (CanPost w ⟨B, k, none⟩ a) := by
  have hnil := fun w a n c => run_neq_slice_nil_any (P := Try.prog) w 46 5 a n c 0 0 Try.underlying46
  have HT := Lib.hid (to4_any v a w h)
  obtain ⟨six, n⟩ := a
  cases six with
  | true =>
    have hb := six_brief h
    have HB := Lib.hid hb
    obtain ⟨b, o, cap, hv, _⟩ := BriefAt.out hb
    have hw : (⟨true, n⟩ : Ad).width = 16 := rfl
    rw [hw] at hv
    subst hv
    clear hb h hw
    go_enter Try.func61, Try.ntmps61
    go_wp2_with fail
    refine HT.out.mono ?_
    rintro e w' ⟨v', rfl, hv, rfl⟩
    obtain rfl : v' = .slice none 0 0 := hv
    go_wp2_with fail
    refine (to16_sixteen _ _ _ _).mono ?_
    rintro e w' ⟨rfl, rfl⟩
    go_wp2_with fail
    refine (to16_sixteen _ _ _ _).mono ?_
    rintro e w' ⟨rfl, rfl⟩
    go_wp2_with fail
    go_ret
    exact ⟨_, rfl, HB.out, rfl⟩
  | false =>
    obtain ⟨b, o, n', cap, rfl⟩ := h.slice
    clear h
    go_enter Try.func61, Try.ntmps61
    go_wp2_with fail
    refine HT.out.mono ?_
    rintro e w' ⟨v', rfl, hv, rfl⟩
    have hv2 : BriefAt w v' ⟨false, n⟩ := hv
    obtain ⟨b2, o2, cap2, rfl, _⟩ := BriefAt.out hv2
    clear hv hv2
    go_wp2_with fail
    refine HT.out.mono ?_
    rintro e w' ⟨v', rfl, hv, rfl⟩
    have hv2 : BriefAt w v' ⟨false, n⟩ := hv
    have HV := Lib.hid hv2
    obtain ⟨b3, o3, cap3, rfl, _⟩ := BriefAt.out hv2
    clear hv hv2
    go_wp2_with fail
    go_ret
    exact ⟨_, rfl, HV.out, rfl⟩

def NnmPost (w : World) (a : Ad) (vm : Value) (e : Ending) (w' : World) : Prop := ∃ v', e = .returned (.tuple #[v', vm]) ∧ BriefAt w v' a ∧ w = w'

theorem nnm_any (B : Nat) (vi vm : Value) (a : Ad) (free : Nat) (w : World) (h0 : w.cell? ⟨B, 0, none⟩ = some vi) (h1 : w.cell? ⟨B, 1, none⟩ = some vm) (hi : BriefAt w vi a) (hm : IPAt w vm (a.mask free)) :
    Calls Try.prog 82 #[.pointer (some ⟨B, 0, none⟩)] w (NnmPost w a vm) := by
  have hnil := fun w a n c => Lib.run_eql_slice_nil (P := Try.prog) w 46 5 a n c 0 0 Try.underlying46
  have HT := Lib.hid (to4_any vi a w (.inr hi))
  have HI := Lib.hid hi
  obtain ⟨b, o, cap, rfl, _⟩ := BriefAt.out hi
  obtain ⟨m, mo, mcap, rfl, _⟩ := IPAt.out hm
  rw [Ad.mask_length] at h1 ⊢
  obtain ⟨six, n⟩ := a
  clear hi hm
  cases six with
  | true =>
    have hw : (⟨true, n⟩ : Ad).width = 16 := rfl
    rw [hw] at h0 h1 HI HT ⊢
    clear hw
    go_enter Try.func82, Try.ntmps82
    go_wp2_with fail
    refine HT.out.mono ?_
    rintro e w' ⟨v', rfl, hv, rfl⟩
    obtain rfl : v' = .slice none 0 0 := hv
    go_wp2_with fail
    go_ret2
    exact ⟨_, rfl, HI.out, rfl⟩
  | false =>
    have hw : (⟨false, n⟩ : Ad).width = 4 := rfl
    rw [hw] at h0 h1 HI HT ⊢
    clear hw
    go_enter Try.func82, Try.ntmps82
    go_wp2_with fail
    refine HT.out.mono ?_
    rintro e w' ⟨v', rfl, hv, rfl⟩
    have hv2 : BriefAt w v' ⟨false, n⟩ := hv
    have HV := Lib.hid hv2
    obtain ⟨b3, o3, cap3, rfl, _⟩ := BriefAt.out hv2
    have hw : (⟨false, n⟩ : Ad).width = 4 := rfl
    rw [hw] at HV ⊢
    clear hv hv2 hw
    go_wp2_with fail
    go_ret2
    exact ⟨_, rfl, HV.out, rfl⟩

theorem net_iff {a b : Ad} {free : Nat} (oa : a.ok) (ob : b.ok) (h6 : a.six = b.six) : (∀ i, i < a.width → (a.net free).brief.getD i 0 = (b.net free).brief.getD i 0) ↔ a.net free = b.net free := by
  constructor
  · intro h
    exact brief_inj (net_ok free oa) (net_ok free ob) h6 (brief_ext (a := a.net free) (b := b.net free) h6 h)
  · intro h i _
    rw [h]

instance adDec (a b : Ad) : Decidable (a = b) := decidable_of_iff (a.six = b.six ∧ a.n = b.n) ⟨fun h => by
  obtain ⟨s, n⟩ := a
  obtain ⟨t, m⟩ := b
  simp only at h
  rw [h.1, h.2], fun h => by rw [h]; exact ⟨rfl, rfl⟩⟩

/-- An address of the net's own kind. -/
theorem netContains_any (B : Nat) (vi vm v : Value) (a b : Ad) (free : Nat) (w : World) (h0 : w.cell? ⟨B, 0, none⟩ = some vi) (h1 : w.cell? ⟨B, 1, none⟩ = some vm) (hi : BriefAt w vi a) (hm : IPAt w vm (a.mask free)) (hv : BriefAt w v b)
    (oa : a.ok) (ob : b.ok) (hf : free ≤ a.room) (h6 : a.six = b.six) :
    Calls Try.prog 62 #[.pointer (some ⟨B, 0, none⟩), v] w (BelowPost w (.bool (decide (a.net free = b.net free)))) := by
  have hnil := fun w a n c => run_neq_slice_nil_any (P := Try.prog) w 46 5 a n c 0 0 Try.underlying46
  have HN := Lib.hid (nnm_any B vi vm a free w h0 h1 hi hm)
  have HT := Lib.hid (to4_any v b w (.inr hv))
  have HV := Lib.hid hv
  have HANDA := Lib.hid (fun i (h : i < a.width) => and_ad a free i oa hf h)
  have HANDB := Lib.hid (fun i (h : i < a.width) => by
    have h2 := and_ad b free i ob (by have : b.room = a.room := by unfold Ad.room; rw [h6]
                                      omega) (by rw [← width_eq h6]; exact h)
    have h3 : b.mask free = a.mask free := by unfold Ad.mask; rw [width_eq h6]
    rw [h3] at h2
    exact h2)
  have HIFF := Lib.hid (net_iff (free := free) oa ob h6)
  have hwb := (width_eq h6).symm
  obtain ⟨m, mo, mcap, rfl, lm, gm1, gm2, gmc⟩ := IPAt.out hm
  rw [Ad.mask_length] at h1 HN gm1 gmc
  obtain ⟨bv, ov, cv, rfl, lv, gv1, gv2, gvc⟩ := BriefAt.out hv
  rw [hwb] at gv1 gvc HV HT ⊢
  have HGM := Lib.hid gmc
  have HGV := Lib.hid gvc
  obtain ⟨W, hW⟩ : ∃ W, W = a.width := ⟨_, rfl⟩
  have hW16 := (width_cases a).2
  have hW0 := (width_cases a).1
  rw [← hW] at h1 HN gm1 gv1 HV HT HANDA HANDB HIFF HGM HGV hW16 hW0 ⊢
  have HW := Lib.hid hW
  have H6 := Lib.hid h6
  clear hi hm hv oa ob hf gmc gvc hwb hW h6 h0
  go_enter Try.func62, Try.ntmps62
  go_wp2_with fail
  refine HN.out.mono ?_
  rintro e w' ⟨vn, rfl, hvn, rfl⟩
  obtain ⟨bn, on, cn, rfl, ln, gn1, gn2, gnc⟩ := BriefAt.out hvn
  rw [← HW.out] at gn1 gnc ⊢
  have HGN := Lib.hid gnc
  clear hvn gnc
  go_wp2_with fail
  refine HT.out.mono ?_
  rintro e w' ⟨v', rfl, hv', rfl⟩
  have hfin : ∃ b2 o2 c2, (v' = .slice none 0 0 ∧ b2 = bv ∧ o2 = ov ∧ c2 = cv ∨ v' = .slice (some ⟨b2, o2, none⟩) W c2) ∧ W ≤ c2 ∧ c2 ≤ 9223372036854775807 ∧ b2 < w.heap.size ∧ ∀ i, i < W → w.cell? ⟨b2, o2 + i, none⟩ = some (.int .u8 (b.brief.getD i 0).toNat) := by
    cases hs : b.six with
    | true =>
      rw [hs, if_pos rfl] at hv'
      exact ⟨bv, ov, cv, .inl ⟨hv', rfl, rfl, rfl⟩, gv1, gv2, lv, HGV.out⟩
    | false =>
      rw [hs, if_neg (by decide)] at hv'
      obtain ⟨b2, o2, c2, h1, h2, h3, h4, h5⟩ := BriefAt.out hv'
      rw [show b.width = W by rw [HW.out]; exact (width_eq H6.out).symm] at h1 h3 h5
      exact ⟨b2, o2, c2, .inr h1, h3, h4, h2, h5⟩
  obtain ⟨b2, o2, c2, hcase, g1, g2, l2, hcc⟩ := hfin
  have HCC := Lib.hid hcc
  clear hcc hv'
  rcases hcase with ⟨rfl, rfl, rfl, rfl⟩ | rfl
  all_goals
    clear HN HT HV
    go_wp2_with fail
    go_loopw [9] (fun i wr => ∃ k : Nat, k ≤ W ∧ i = .int .i64 k ∧ Hid ((∀ j, j < k → (a.net free).brief.getD j 0 = (b.net free).brief.getD j 0) ∧ Below w.heap.size w wr)) (fun i _ => W - (intOf i).toNat)
    case atStart => exact ⟨0, Nat.zero_le _, rfl, (fun j hj => by omega), Below.refl _ _⟩
    case round =>
      obtain ⟨k, hk, rfl, hr⟩ := hrel
      by_cases hlt : k < W
      · have c1 := (hr.out.2.cell (p := ⟨bn, on + k, none⟩) ln).trans (HGN.out k hlt)
        have c2 := (hr.out.2.cell (p := ⟨m, mo + k, none⟩) lm).trans (HGM.out k hlt)
        have c3 := (hr.out.2.cell (p := ⟨b2, o2 + k, none⟩) l2).trans (HCC.out k hlt)
        have ha := HANDA.out k hlt
        have hb := HANDB.out k hlt
        have HNEXT := Lib.hid (show (a.net free).brief.getD k 0 = (b.net free).brief.getD k 0 → ∀ j, j < k + 1 → (a.net free).brief.getD j 0 = (b.net free).brief.getD j 0 from fun e j hj => by
          by_cases hjk : j = k
          · rw [hjk]; exact e
          · exact hr.out.1 j (by omega))
        have HNOT := Lib.hid (show (a.net free).brief.getD k 0 ≠ (b.net free).brief.getD k 0 → ¬ (a.net free = b.net free) from fun e h => e (by rw [h]))
        generalize a.brief.getD k 0 = x1 at c1 ha
        generalize (a.mask free).getD k 0 = x2 at c2 ha hb
        generalize b.brief.getD k 0 = x3 at c3 hb
        generalize (a.net free).brief.getD k 0 = y1 at ha HNEXT HNOT
        generalize (b.net free).brief.getD k 0 = y2 at hb HNEXT HNOT
        have q1 : (0 : Int) ≤ (k : Int) := by omega
        have q2 : (k : Int) < W := by omega
        by_cases hxy : y1 = y2
        · have t1 : ((y1.toNat : Int) != y2.toNat) = false := by rw [hxy]; simp
          have HN2 := Lib.hid (HNEXT.out hxy)
          clear hxy HNEXT HNOT
          go_wp2_with fail
          go_quiet (fail)
          go_wp2_with fail
          go_roundw
          case rel => exact ⟨k + 1, by omega, by go_num, HN2.out, below_drewN hr.out.2 _⟩
          case measure => simp [intOf]; omega
        · have t1 : ((y1.toNat : Int) != y2.toNat) = true := by
            rw [bne_iff_ne]
            intro h
            exact hxy (UInt8.toNat_inj.1 (by omega))
          have HN2 := Lib.hid (HNOT.out hxy)
          clear hxy HNEXT HNOT
          go_wp2_with fail
          go_quiet (fail)
          go_wp2_with fail
          go_ret
          exact ⟨ret_bool (by rw [decide_eq_false HN2.out]), below_drewN hr.out.2 _⟩
      · obtain rfl : k = W := by omega
        have HD := Lib.hid (HIFF.out.1 hr.out.1)
        go_wp2_with fail
        go_ret
        exact ⟨ret_bool (by rw [decide_eq_true HD.out]), hr.out.2⟩

end Go.Proofs.Ytnehofekgnbelaa

/-
  allocator's (*Range).Contains.
-/
namespace Go.Proofs.Ytnehofekgnbelaa
open Go.RowKit
set_option linter.unusedVariables false
set_option maxRecDepth 100000
set_option maxHeartbeats 1000000

/-- A range's five cells. -/
structure RgAt (w : World) (B o : Nat) (v0 v1 vi vm v4 : Value) : Prop where
  c0 : w.cell? ⟨B, o, none⟩ = some v0
  c1 : w.cell? ⟨B, o + 1, none⟩ = some v1
  c2 : w.cell? ⟨B, o + 2, none⟩ = some vi
  c3 : w.cell? ⟨B, o + 3, none⟩ = some vm
  c4 : w.cell? ⟨B, o + 4, none⟩ = some v4
theorem RgAt.lt {w : World} {B o : Nat} {v0 v1 vi vm v4 : Value} (h : RgAt w B o v0 v1 vi vm v4) : B < w.heap.size := World.block_lt_of_cell? w _ h.c0
theorem RgAt.keep {w w' : World} {B o : Nat} {v0 v1 vi vm v4 : Value} (h : RgAt w B o v0 v1 vi vm v4) (hb : Below w.heap.size w w') : RgAt w' B o v0 v1 vi vm v4 :=
  ⟨(hb.cell h.lt).trans h.c0, (hb.cell h.lt).trans h.c1, (hb.cell h.lt).trans h.c2, (hb.cell h.lt).trans h.c3, (hb.cell h.lt).trans h.c4⟩

theorem canonBox_any (v : Value) (b : Ad) (w : World) (h : AdAt w v b) :
    Calls Try.prog 61 #[.pointer (some ⟨w.heap.size, 0, none⟩)] (w.alloc (.cells #[v] 46)) (fun e w' => ∃ v', e = .returned .nilIface ∧ BriefAt w' v' b ∧ w'.heap[w.heap.size]? = some (.cells #[v'] 46 (0, 0)) ∧ Below w.heap.size w w') := by
  have ha := heap_alloc_new w (.cells #[v] 46)
  have hc := cell_of_row (w.alloc (.cells #[v] 46)) w.heap.size 0 _ _ _ ha
  refine (canonIP_any w.heap.size 0 v b _ hc (frozen_of_row _ _ 0 _ _ ha) (h.keep ((Below.refl _ _).alloc (Nat.le_refl _) _))).mono ?_
  rintro e w' ⟨v', rfl, hv', rfl⟩
  refine ⟨v', rfl, IPAt.set hv' fun x => ?_, ?_, ((Below.refl w.heap.size w).alloc (Nat.le_refl _) _).setCell (Nat.le_refl _) _⟩
  · rw [hc]
    obtain ⟨b1, o1, n1, k1, rfl⟩ := h.slice
    simp [u8v]
  · rw [heap_setCell_same _ _ 0 _ _ _ ha]; rfl

/-- Does the range have the address? -/
def startOK (o : Option Ad) (b : Ad) : Bool := match o with | none => true | some s => decide (0 ≤ b.cmp s)
def endOK (o : Option Ad) (b : Ad) : Bool := match o with | none => true | some s => decide (b.cmp s ≤ 0)
def cont (a : Ad) (free : Nat) (o1 o2 : Option Ad) (b : Ad) : Bool := decide (a.six = b.six) && decide (a.net free = b.net free) && startOK o1 b && endOK o2 b

/-- All that Contains looks at. -/
structure ContIn (w : World) (B o : Nat) (v0 v1 vi vm v4 v : Value) (a : Ad) (free : Nat) (o1 o2 : Option Ad) (b : Ad) : Prop where
  at_ : RgAt w B o v0 v1 vi vm v4
  start : OptAt w v0 o1
  end_ : OptAt w v1 o2
  net : BriefAt w vi a
  mask : IPAt w vm (a.mask free)
  ad : AdAt w v b
  oa : a.ok
  ob : b.ok
  o1k : ∀ s, o1 = some s → s.ok
  o2k : ∀ s, o2 = some s → s.ok
  room : free ≤ a.room

/-- The world within: the address's box, the range. -/
structure CW (w : World) (B o : Nat) (v0 v1 vi vm v4 vb : Value) (o1 o2 : Option Ad) (b : Ad) (w' : World) : Prop where
  at_ : RgAt w' B o v0 v1 vi vm v4
  box : w'.heap[w.heap.size]? = some (.cells #[vb] 46 (0, 0))
  ad : AdAt w' vb b
  s : OptAt w' v0 o1
  e : OptAt w' v1 o2
  below : Below w.heap.size w w'
theorem CW.on {w w1 w2 : World} {B o : Nat} {v0 v1 vi vm v4 vb : Value} {o1 o2 : Option Ad} {b : Ad} (h : CW w B o v0 v1 vi vm v4 vb o1 o2 b w1) (hb : Below w1.heap.size w1 w2) : CW w B o v0 v1 vi vm v4 vb o1 o2 b w2 :=
  ⟨h.at_.keep hb, row_on hb h.box, h.ad.keep hb, h.s.keep hb, h.e.keep hb, below_tr h.below hb⟩

theorem contains_kind (B o : Nat) (v0 v1 vi vm v4 v : Value) (a : Ad) (free : Nat) (o1 o2 : Option Ad) (b : Ad) (w : World) (h : ContIn w B o v0 v1 vi vm v4 v a free o1 o2 b) (h6 : a.six ≠ b.six) :
    Calls Try.prog 38 #[.pointer (some ⟨B, o, none⟩), v] w (BelowPost w (.bool false)) := by
  have hwn := width_ne h6
  have HB := Lib.hid (canonBox_any v b w h.ad)
  have H := Lib.hid h
  obtain ⟨bs, ns, ks, rfl⟩ := h.start.slice
  obtain ⟨be, ne, ke, rfl⟩ := h.end_.slice
  obtain ⟨bi, oi, ki, rfl, _⟩ := BriefAt.out h.net
  obtain ⟨bm, om, km, rfl, _⟩ := IPAt.out h.mask
  obtain ⟨bv, ov, nv, kv, rfl⟩ := h.ad.slice
  have hlt := h.at_.lt
  go_enter Try.func38, Try.ntmps38
  go_wp2_with fail
  refine HB.out.mono ?_
  rintro e w1 ⟨v', rfl, hv', hbox, hb1⟩
  have HAT := Lib.hid (H.out.at_.keep hb1)
  obtain ⟨c0, c1, c2, c3, c4⟩ := H.out.at_.keep hb1
  obtain ⟨bw, ow, kw, rfl, _⟩ := BriefAt.out hv'
  have d0 : w1.cell? ⟨w.heap.size, 0, none⟩ = some _ := cell_of_row w1 _ 0 _ _ _ hbox
  have hsz : w.heap.size < w1.heap.size := (Array.getElem?_eq_some_iff.1 hbox).1
  have hne : B < w1.heap.size := by omega
  have HV := Lib.hid hv'
  have HBX := Lib.hid hbox
  have HB1 := Lib.hid hb1
  clear h hv' hbox hb1 HB
  have t1 : ((b.width : Int) != (a.width : Int)) = true := by rw [bne_iff_ne]; omega
  generalize b.width = x at t1 d0 HV HBX ⊢
  generalize a.width = y at t1 c2 hwn H HAT ⊢
  clear HAT H hwn
  go_wp2_with fail
  go_quiet (fail)
  go_wp2_with fail
  go_ret
  exact ⟨rfl, below_drewN (HB1.out.alloc HB1.out.size _) _⟩

theorem contains_net (B o : Nat) (v0 v1 vi vm v4 v : Value) (a : Ad) (free : Nat) (o1 o2 : Option Ad) (b : Ad) (w : World) (h : ContIn w B o v0 v1 vi vm v4 v a free o1 o2 b) (h6 : a.six = b.six) (hn : ¬ a.net free = b.net free) :
    Calls Try.prog 38 #[.pointer (some ⟨B, o, none⟩), v] w (BelowPost w (.bool false)) := by
  have HB := Lib.hid (canonBox_any v b w h.ad)
  have H := Lib.hid h
  obtain ⟨bs, ns, ks, rfl⟩ := h.start.slice
  obtain ⟨be, ne, ke, rfl⟩ := h.end_.slice
  obtain ⟨bi, oi, ki, rfl, _⟩ := BriefAt.out h.net
  obtain ⟨bm, om, km, rfl, _⟩ := IPAt.out h.mask
  obtain ⟨bv, ov, nv, kv, rfl⟩ := h.ad.slice
  have hlt := h.at_.lt
  go_enter Try.func38, Try.ntmps38
  go_wp2_with fail
  refine HB.out.mono ?_
  rintro e w1 ⟨v', rfl, hv', hbox, hb1⟩
  have HAT := Lib.hid (H.out.at_.keep hb1)
  obtain ⟨c0, c1, c2, c3, c4⟩ := H.out.at_.keep hb1
  obtain ⟨bw, ow, kw, rfl, _⟩ := BriefAt.out hv'
  have d0 : w1.cell? ⟨w.heap.size, 0, none⟩ = some _ := cell_of_row w1 _ 0 _ _ _ hbox
  have hsz : w.heap.size < w1.heap.size := (Array.getElem?_eq_some_iff.1 hbox).1
  have hne : B < w1.heap.size := by omega
  have HV := Lib.hid hv'
  have HBX := Lib.hid hbox
  have HB1 := Lib.hid hb1
  clear h hv' hbox hb1 HB
  have t1 : ((b.width : Int) != (a.width : Int)) = false := by rw [width_eq h6]; simp
  have HNC := Lib.hid (fun B w h0 h1 hi hm hv => netContains_any B (.slice (some ⟨bi, oi, none⟩) a.width ki) (.slice (some ⟨bm, om, none⟩) (a.mask free).length km) (.slice (some ⟨bw, ow, none⟩) b.width kw) a b free w h0 h1 hi hm hv H.out.oa H.out.ob H.out.room h6)
  generalize hx : b.width = x at t1 d0 HV HBX HNC ⊢
  generalize hy : a.width = y at t1 c2 H HAT HNC ⊢
  generalize hz : (a.mask free).length = z at c3 H HAT HNC ⊢
  clear hx hy hz
  go_wp2_with fail
  go_quiet (fail)
  go_wp2_with fail
  have hal : Below w1.heap.size w1 (w1.alloc (.cells #[.slice (some ⟨bi, oi, none⟩) y ki, .slice (some ⟨bm, om, none⟩) z km] 96)) := (Below.refl _ _).alloc (Nat.le_refl _) _
  have hdr := below_drewN (Below.refl (w1.alloc (.cells #[.slice (some ⟨bi, oi, none⟩) y ki, .slice (some ⟨bm, om, none⟩) z km] 96)).heap.size (w1.alloc (.cells #[.slice (some ⟨bi, oi, none⟩) y ki, .slice (some ⟨bm, om, none⟩) z km] 96))) nq
  have hb2 := below_tr hal hdr
  have hrow2 := row_on hdr (heap_alloc_new w1 (.cells #[.slice (some ⟨bi, oi, none⟩) y ki, .slice (some ⟨bm, om, none⟩) z km] 96))
  have hcall := HNC.out w1.heap.size _ (cell_of_row _ _ 0 _ _ _ hrow2) (cell_of_row _ _ 1 _ _ _ hrow2) (IPAt.keep H.out.net (below_tr HB1.out hb2)) (IPAt.keep H.out.mask (below_tr HB1.out hb2)) (IPAt.keep HV.out hb2)
  have HCW := Lib.hid (CW.on (⟨HAT.out, HBX.out, .inr HV.out, H.out.start.keep HB1.out, H.out.end_.keep HB1.out, HB1.out⟩ : CW w B o _ _ _ _ v4 _ o1 o2 b w1) hb2)
  rw [decide_eq_false hn] at hcall
  clear hal hdr hb2 hrow2 HNC
  refine hcall.mono ?_
  rintro e w3 ⟨rfl, hb3⟩
  have HC3 := Lib.hid (HCW.out.on hb3)
  clear hb3 hcall c0 c1 c2 c3 c4 d0
  go_wp2_with fail
  go_ret
  exact ⟨rfl, HC3.out.below⟩

theorem contains_in (B o : Nat) (v0 v1 vi vm v4 v : Value) (a : Ad) (free : Nat) (o1 o2 : Option Ad) (b : Ad) (w : World) (h : ContIn w B o v0 v1 vi vm v4 v a free o1 o2 b) (h6 : a.six = b.six) (hn : a.net free = b.net free) :
    Calls Try.prog 38 #[.pointer (some ⟨B, o, none⟩), v] w (BelowPost w (.bool (startOK o1 b && endOK o2 b))) := by
  have hnil := fun w a n c => run_neq_slice_nil_any (P := Try.prog) w 46 5 a n c 0 0 Try.underlying46
  have HB := Lib.hid (canonBox_any v b w h.ad)
  have H := Lib.hid h
  obtain ⟨bs, ns, ks, rfl⟩ := h.start.slice
  obtain ⟨be, ne, ke, rfl⟩ := h.end_.slice
  obtain ⟨bi, oi, ki, rfl, _⟩ := BriefAt.out h.net
  obtain ⟨bm, om, km, rfl, _⟩ := IPAt.out h.mask
  obtain ⟨bv, ov, nv, kv, rfl⟩ := h.ad.slice
  have hlt := h.at_.lt
  go_enter Try.func38, Try.ntmps38
  go_wp2_with fail
  refine HB.out.mono ?_
  rintro e w1 ⟨v', rfl, hv', hbox, hb1⟩
  have HAT := Lib.hid (H.out.at_.keep hb1)
  obtain ⟨c0, c1, c2, c3, c4⟩ := H.out.at_.keep hb1
  obtain ⟨bw, ow, kw, rfl, _⟩ := BriefAt.out hv'
  have d0 : w1.cell? ⟨w.heap.size, 0, none⟩ = some _ := cell_of_row w1 _ 0 _ _ _ hbox
  have hsz : w.heap.size < w1.heap.size := (Array.getElem?_eq_some_iff.1 hbox).1
  have hne : B < w1.heap.size := by omega
  have HV := Lib.hid hv'
  have HBX := Lib.hid hbox
  have HB1 := Lib.hid hb1
  clear h hv' hbox hb1 HB
  have t1 : ((b.width : Int) != (a.width : Int)) = false := by rw [width_eq h6]; simp
  have HNC := Lib.hid (fun B w h0 h1 hi hm hv => netContains_any B (.slice (some ⟨bi, oi, none⟩) a.width ki) (.slice (some ⟨bm, om, none⟩) (a.mask free).length km) (.slice (some ⟨bw, ow, none⟩) b.width kw) a b free w h0 h1 hi hm hv H.out.oa H.out.ob H.out.room h6)
  generalize hx : b.width = x at t1 d0 HV HBX HNC ⊢
  generalize hy : a.width = y at t1 c2 H HAT HNC ⊢
  generalize hz : (a.mask free).length = z at c3 H HAT HNC ⊢
  clear hx hy hz
  go_wp2_with fail
  go_quiet (fail)
  go_wp2_with fail
  have hal : Below w1.heap.size w1 (w1.alloc (.cells #[.slice (some ⟨bi, oi, none⟩) y ki, .slice (some ⟨bm, om, none⟩) z km] 96)) := (Below.refl _ _).alloc (Nat.le_refl _) _
  have hdr := below_drewN (Below.refl (w1.alloc (.cells #[.slice (some ⟨bi, oi, none⟩) y ki, .slice (some ⟨bm, om, none⟩) z km] 96)).heap.size (w1.alloc (.cells #[.slice (some ⟨bi, oi, none⟩) y ki, .slice (some ⟨bm, om, none⟩) z km] 96))) nq
  have hb2 := below_tr hal hdr
  have hrow2 := row_on hdr (heap_alloc_new w1 (.cells #[.slice (some ⟨bi, oi, none⟩) y ki, .slice (some ⟨bm, om, none⟩) z km] 96))
  have hcall := HNC.out w1.heap.size _ (cell_of_row _ _ 0 _ _ _ hrow2) (cell_of_row _ _ 1 _ _ _ hrow2) (IPAt.keep H.out.net (below_tr HB1.out hb2)) (IPAt.keep H.out.mask (below_tr HB1.out hb2)) (IPAt.keep HV.out hb2)
  have HCW := Lib.hid (CW.on (⟨HAT.out, HBX.out, .inr HV.out, H.out.start.keep HB1.out, H.out.end_.keep HB1.out, HB1.out⟩ : CW w B o _ _ _ _ v4 _ o1 o2 b w1) hb2)
  rw [decide_eq_true hn] at hcall
  clear hal hdr hb2 hrow2 HNC
  refine hcall.mono ?_
  rintro e w3 ⟨rfl, hb3⟩
  have HC3 := Lib.hid (HCW.out.on hb3)
  clear hb3 hcall c0 c1 c2 c3 c4 d0
  obtain ⟨c0, c1, _, _, _⟩ := HC3.out.at_
  have d0 : w3.cell? ⟨w.heap.size, 0, none⟩ = some _ := cell_of_row w3 _ 0 _ _ _ HC3.out.box
  cases o1 with
  | none =>
    have hv0 := HC3.out.s
    obtain ⟨rfl, rfl, rfl⟩ : bs = none ∧ ns = 0 ∧ ks = 0 := by simpa [OptAt] using hv0
    clear hv0
    cases o2 with
    | none =>
      have hv1 := HC3.out.e
      obtain ⟨rfl, rfl, rfl⟩ : be = none ∧ ne = 0 ∧ ke = 0 := by simpa [OptAt] using hv1
      clear hv1
      go_wp2_with fail
      go_ret
      exact ⟨rfl, HC3.out.below⟩
    | some e2 =>
      obtain ⟨b5, o5, n5, k5, he5⟩ := AdAt.slice (show AdAt _ _ e2 from HC3.out.e)
      obtain ⟨rfl, rfl, rfl⟩ : be = some ⟨b5, o5, none⟩ ∧ ne = n5 ∧ ke = k5 := by simpa using he5
      clear he5
      by_cases hce : b.cmp e2 ≤ 0
      · have t5 : decide ((0 : Int) < b.cmp e2) = false := decide_eq_false (by omega)
        have HR := Lib.hid (show endOK (some e2) b = true by unfold endOK; exact decide_eq_true hce)
        clear hce
        have HK5 := Lib.hid (fun w hu hv => Cmp_any (.slice (some ⟨bw, ow, none⟩) x kw) (.slice (some ⟨b5, o5, none⟩) ne ke) b e2 w hu hv H.out.ob (H.out.o2k e2 rfl))
        generalize hg5 : b.cmp e2 = g5 at HK5 t5
        clear hg5
        go_wp2_with fail
        go_region_held3 (fun w' => w'.cell? ⟨w.heap.size, 0, none⟩ = some (.slice (some ⟨bw, ow, none⟩) x kw) ∧ w'.cell? ⟨B, o + 1, none⟩ = some (.slice (some ⟨b5, o5, none⟩) ne ke)) (go_keep) (first | (go_at_call 27; refine (HK5.out _ (HC3.out.ad.keep (below_drewN (Below.refl _ _) 1)) ((HC3.out.e).keep (below_drewN (Below.refl _ _) 1))).mono ?_; rintro e w5 ⟨rfl, hb⟩; have HF := Lib.hid (HC3.out.on (below_tr (below_drewN (Below.refl _ _) 1) hb)); clear c0 c1 d0; obtain ⟨c0, c1, _, _, _⟩ := HF.out.at_; have d0 : w5.cell? ⟨w.heap.size, 0, none⟩ = some _ := cell_of_row w5 _ 0 _ _ _ HF.out.box; clear hb))
        go_wp2_with fail
        go_ret
        exact ⟨ret_bool (by rw [HR.out]; rfl), HF.out.below⟩
      · have t5 : decide ((0 : Int) < b.cmp e2) = true := decide_eq_true (by omega)
        have HR := Lib.hid (show endOK (some e2) b = false by unfold endOK; exact decide_eq_false hce)
        clear hce
        have HK5 := Lib.hid (fun w hu hv => Cmp_any (.slice (some ⟨bw, ow, none⟩) x kw) (.slice (some ⟨b5, o5, none⟩) ne ke) b e2 w hu hv H.out.ob (H.out.o2k e2 rfl))
        generalize hg5 : b.cmp e2 = g5 at HK5 t5
        clear hg5
        go_wp2_with fail
        go_region_held3 (fun w' => w'.cell? ⟨w.heap.size, 0, none⟩ = some (.slice (some ⟨bw, ow, none⟩) x kw) ∧ w'.cell? ⟨B, o + 1, none⟩ = some (.slice (some ⟨b5, o5, none⟩) ne ke)) (go_keep) (first | (go_at_call 27; refine (HK5.out _ (HC3.out.ad.keep (below_drewN (Below.refl _ _) 1)) ((HC3.out.e).keep (below_drewN (Below.refl _ _) 1))).mono ?_; rintro e w5 ⟨rfl, hb⟩; have HF := Lib.hid (HC3.out.on (below_tr (below_drewN (Below.refl _ _) 1) hb)); clear c0 c1 d0; obtain ⟨c0, c1, _, _, _⟩ := HF.out.at_; have d0 : w5.cell? ⟨w.heap.size, 0, none⟩ = some _ := cell_of_row w5 _ 0 _ _ _ HF.out.box; clear hb))
        go_wp2_with fail
        go_ret
        exact ⟨ret_bool (by rw [HR.out]; rfl), HF.out.below⟩
  | some s1 =>
    obtain ⟨b6, o6, n6, k6, he6⟩ := AdAt.slice (show AdAt _ _ s1 from HC3.out.s)
    obtain ⟨rfl, rfl, rfl⟩ : bs = some ⟨b6, o6, none⟩ ∧ ns = n6 ∧ ks = k6 := by simpa using he6
    clear he6
    by_cases hcs : 0 ≤ b.cmp s1
    · have t6 : decide (b.cmp s1 < (0 : Int)) = false := decide_eq_false (by omega)
      have HRS := Lib.hid (show startOK (some s1) b = true by unfold startOK; exact decide_eq_true hcs)
      clear hcs
      have HK6 := Lib.hid (fun w hu hv => Cmp_any (.slice (some ⟨bw, ow, none⟩) x kw) (.slice (some ⟨b6, o6, none⟩) ns ks) b s1 w hu hv H.out.ob (H.out.o1k s1 rfl))
      generalize hg6 : b.cmp s1 = g6 at HK6 t6
      clear hg6
      go_wp2_with fail
      go_region_held3 (fun w' => w'.cell? ⟨w.heap.size, 0, none⟩ = some (.slice (some ⟨bw, ow, none⟩) x kw) ∧ w'.cell? ⟨B, o, none⟩ = some (.slice (some ⟨b6, o6, none⟩) ns ks)) (go_keep) (first | (go_at_call 27; refine (HK6.out _ (HC3.out.ad.keep (below_drewN (Below.refl _ _) 1)) ((HC3.out.s).keep (below_drewN (Below.refl _ _) 1))).mono ?_; rintro e w6 ⟨rfl, hb⟩; have HS := Lib.hid (HC3.out.on (below_tr (below_drewN (Below.refl _ _) 1) hb)); clear c0 c1 d0; obtain ⟨c0, c1, _, _, _⟩ := HS.out.at_; have d0 : w6.cell? ⟨w.heap.size, 0, none⟩ = some _ := cell_of_row w6 _ 0 _ _ _ HS.out.box; clear hb))
      cases o2 with
      | none =>
        have hv1 := HS.out.e
        obtain ⟨rfl, rfl, rfl⟩ : be = none ∧ ne = 0 ∧ ke = 0 := by simpa [OptAt] using hv1
        clear hv1
        go_wp2_with fail
        go_ret
        exact ⟨ret_bool (by rw [HRS.out]; rfl), HS.out.below⟩
      | some e2 =>
        obtain ⟨b5, o5, n5, k5, he5⟩ := AdAt.slice (show AdAt _ _ e2 from HS.out.e)
        obtain ⟨rfl, rfl, rfl⟩ : be = some ⟨b5, o5, none⟩ ∧ ne = n5 ∧ ke = k5 := by simpa using he5
        clear he5
        by_cases hce : b.cmp e2 ≤ 0
        · have t5 : decide ((0 : Int) < b.cmp e2) = false := decide_eq_false (by omega)
          have HR := Lib.hid (show endOK (some e2) b = true by unfold endOK; exact decide_eq_true hce)
          clear hce
          have HK5 := Lib.hid (fun w hu hv => Cmp_any (.slice (some ⟨bw, ow, none⟩) x kw) (.slice (some ⟨b5, o5, none⟩) ne ke) b e2 w hu hv H.out.ob (H.out.o2k e2 rfl))
          generalize hg5 : b.cmp e2 = g5 at HK5 t5
          clear hg5
          go_wp2_with fail
          go_region_held3 (fun w' => w'.cell? ⟨w.heap.size, 0, none⟩ = some (.slice (some ⟨bw, ow, none⟩) x kw) ∧ w'.cell? ⟨B, o + 1, none⟩ = some (.slice (some ⟨b5, o5, none⟩) ne ke)) (go_keep) (first | (go_at_call 27; refine (HK5.out _ (HS.out.ad.keep (below_drewN (Below.refl _ _) 1)) ((HS.out.e).keep (below_drewN (Below.refl _ _) 1))).mono ?_; rintro e w5 ⟨rfl, hb⟩; have HF := Lib.hid (HS.out.on (below_tr (below_drewN (Below.refl _ _) 1) hb)); clear c0 c1 d0; obtain ⟨c0, c1, _, _, _⟩ := HF.out.at_; have d0 : w5.cell? ⟨w.heap.size, 0, none⟩ = some _ := cell_of_row w5 _ 0 _ _ _ HF.out.box; clear hb))
          go_wp2_with fail
          go_ret
          exact ⟨ret_bool (by rw [HRS.out, HR.out]; rfl), HF.out.below⟩
        · have t5 : decide ((0 : Int) < b.cmp e2) = true := decide_eq_true (by omega)
          have HR := Lib.hid (show endOK (some e2) b = false by unfold endOK; exact decide_eq_false hce)
          clear hce
          have HK5 := Lib.hid (fun w hu hv => Cmp_any (.slice (some ⟨bw, ow, none⟩) x kw) (.slice (some ⟨b5, o5, none⟩) ne ke) b e2 w hu hv H.out.ob (H.out.o2k e2 rfl))
          generalize hg5 : b.cmp e2 = g5 at HK5 t5
          clear hg5
          go_wp2_with fail
          go_region_held3 (fun w' => w'.cell? ⟨w.heap.size, 0, none⟩ = some (.slice (some ⟨bw, ow, none⟩) x kw) ∧ w'.cell? ⟨B, o + 1, none⟩ = some (.slice (some ⟨b5, o5, none⟩) ne ke)) (go_keep) (first | (go_at_call 27; refine (HK5.out _ (HS.out.ad.keep (below_drewN (Below.refl _ _) 1)) ((HS.out.e).keep (below_drewN (Below.refl _ _) 1))).mono ?_; rintro e w5 ⟨rfl, hb⟩; have HF := Lib.hid (HS.out.on (below_tr (below_drewN (Below.refl _ _) 1) hb)); clear c0 c1 d0; obtain ⟨c0, c1, _, _, _⟩ := HF.out.at_; have d0 : w5.cell? ⟨w.heap.size, 0, none⟩ = some _ := cell_of_row w5 _ 0 _ _ _ HF.out.box; clear hb))
          go_wp2_with fail
          go_ret
          exact ⟨ret_bool (by rw [HRS.out, HR.out]; rfl), HF.out.below⟩
    · have t6 : decide (b.cmp s1 < (0 : Int)) = true := decide_eq_true (by omega)
      have HRS := Lib.hid (show startOK (some s1) b = false by unfold startOK; exact decide_eq_false hcs)
      clear hcs
      have HK6 := Lib.hid (fun w hu hv => Cmp_any (.slice (some ⟨bw, ow, none⟩) x kw) (.slice (some ⟨b6, o6, none⟩) ns ks) b s1 w hu hv H.out.ob (H.out.o1k s1 rfl))
      generalize hg6 : b.cmp s1 = g6 at HK6 t6
      clear hg6
      go_wp2_with fail
      go_region_held3 (fun w' => w'.cell? ⟨w.heap.size, 0, none⟩ = some (.slice (some ⟨bw, ow, none⟩) x kw) ∧ w'.cell? ⟨B, o, none⟩ = some (.slice (some ⟨b6, o6, none⟩) ns ks)) (go_keep) (first | (go_at_call 27; refine (HK6.out _ (HC3.out.ad.keep (below_drewN (Below.refl _ _) 1)) ((HC3.out.s).keep (below_drewN (Below.refl _ _) 1))).mono ?_; rintro e w6 ⟨rfl, hb⟩; have HS := Lib.hid (HC3.out.on (below_tr (below_drewN (Below.refl _ _) 1) hb)); clear c0 c1 d0; obtain ⟨c0, c1, _, _, _⟩ := HS.out.at_; have d0 : w6.cell? ⟨w.heap.size, 0, none⟩ = some _ := cell_of_row w6 _ 0 _ _ _ HS.out.box; clear hb))
      go_wp2_with fail
      go_ret
      exact ⟨ret_bool (by rw [HRS.out]; rfl), HS.out.below⟩

theorem contains_any (B o : Nat) (v0 v1 vi vm v4 v : Value) (a : Ad) (free : Nat) (o1 o2 : Option Ad) (b : Ad) (w : World) (h : ContIn w B o v0 v1 vi vm v4 v a free o1 o2 b) :
    Calls Try.prog 38 #[.pointer (some ⟨B, o, none⟩), v] w (BelowPost w (.bool (cont a free o1 o2 b))) := by
  unfold cont
  by_cases h6 : a.six = b.six
  · by_cases hn : a.net free = b.net free
    · rw [decide_eq_true h6, decide_eq_true hn]
      exact contains_in B o v0 v1 vi vm v4 v a free o1 o2 b w h h6 hn
    · rw [decide_eq_true h6, decide_eq_false hn]
      exact contains_net B o v0 v1 vi vm v4 v a free o1 o2 b w h h6 hn
  · rw [decide_eq_false h6]
    exact contains_kind B o v0 v1 vi vm v4 v a free o1 o2 b w h h6

end Go.Proofs.Ytnehofekgnbelaa

/-
  allocator.lastIP.
-/
namespace Go.Proofs.Ytnehofekgnbelaa
open Go.RowKit
set_option linter.unusedVariables false
set_option maxRecDepth 100000
set_option maxHeartbeats 1000000

/-- The world within: the box of the subnet, the bytes so far. -/
structure LastRel (w : World) (vi vm v : Value) (l : List UInt8) (wr : World) : Prop where
  box : wr.heap[w.heap.size]? = some (.cells #[vi, vm] 60 (0, 0))
  buf : Buf wr (w.heap.size + 1) v l
  below : Below w.heap.size w wr
  size : w.heap.size + 1 ≤ wr.heap.size

theorem LastRel.grow {w wr w2 : World} {vi vm v v2 : Value} {l l2 : List UInt8} {o : Obj} (h : LastRel w vi vm v l wr) (hg : (wr.alloc o).drew.grownBy w2 v.ownBlock) (hB : Buf w2 (w.heap.size + 1) v2 l2) : LastRel w vi vm v2 l2 w2 := by
  have hlt := h.buf.lt
  have hb : Below wr.heap.size wr (wr.alloc o).drew := below_drewN ((Below.refl _ _).alloc (Nat.le_refl _) _) 1
  have hbw : Below w.heap.size w (wr.alloc o).drew := below_tr h.below hb
  refine ⟨?_, hB, hbw.grown hg (by have := hbw.size; exact this) (fun k hk => by have := (hlt k hk).1; omega), Nat.le_trans (Nat.le_trans h.size hb.size) hg.size⟩
  have h1 := row_on hb h.box
  rw [hg.block _ (Array.getElem?_eq_some_iff.1 h1).1 (fun e => by have := (hlt _ e.symm).1; omega)]
  exact h1

theorem not_u8 (x : UInt8) : bits .xor .u8 (if IntKind.u8.signed = true then -1 else IntKind.u8.max) (x.toNat : Int) = ((255 - x.toNat : Nat) : Int) := by
  have key : ∀ x : Fin 256, bits .xor .u8 (if IntKind.u8.signed = true then -1 else IntKind.u8.max) (x.val : Int) = ((255 - x.val : Nat) : Int) := by decide +kernel
  exact key ⟨x.toNat, x.toNat_lt⟩

theorem take_owns {w : World} {base : Nat} {v : Value} {l : List UInt8} (k : Nat) (hk : k ≤ l.length) (h : Buf w base v (l.take k)) : w.ownsRow base 5 1 v k (ipv (l.take k)) := by
  unfold Buf at h
  rw [List.length_take, Nat.min_eq_left hk] at h
  exact h
theorem last_buf {w2 : World} {base : Nat} {v : Value} {n : Nat} {l l' : List UInt8} {x : Int} {y : UInt8} (h : w2.ownsRow base 5 1 v (n + 1) (ipv l ++ [.int .u8 x])) (hx : x = y.toNat) (hl : l' = l ++ [y]) (hn : l.length = n) : Buf w2 base v l' := by
  subst hx hl hn
  unfold Buf
  rw [List.length_append, show ipv (l ++ [y]) = ipv l ++ [.int .u8 y.toNat] by simp [ipv, u8v]]
  exact h

/-- The last address that is given: of four bytes not the last one of all. -/
def Ad.endOf (a : Ad) (free : Nat) : Ad := if a.six then a.last free else (a.last free).down
theorem end_six {a : Ad} {free : Nat} (h : a.six = true) : (a.endOf free).brief = (a.last free).brief := by unfold Ad.endOf; rw [if_pos h]
theorem last_odd {a : Ad} {free : Nat} (h1 : 1 ≤ free) : (a.last free).n % 2 = 1 := by
  obtain ⟨f, rfl⟩ : ∃ f, free = f + 1 := ⟨free - 1, by omega⟩
  show (a.n / 2 ^ (f + 1) * 2 ^ (f + 1) + (2 ^ (f + 1) - 1)) % 2 = 1
  rw [Nat.pow_succ, ← Nat.mul_assoc]
  have : 0 < 2 ^ f := Nat.pow_pos (by decide)
  omega
theorem end_four {a : Ad} {free : Nat} (h : a.six = false) (oa : a.ok) (hf : free ≤ a.room) (h1 : 1 ≤ free) : ∃ y : UInt8, (a.last free).brief.set 3 y = (a.endOf free).brief ∧ y.toNat + 1 = ((a.last free).brief.getD 3 0).toNat := by
  have hodd := last_odd (a := a) h1
  have hok := last_ok oa hf
  obtain ⟨six, n⟩ := a
  obtain rfl : six = false := h
  have e : Ad.endOf ⟨false, n⟩ free = (Ad.last ⟨false, n⟩ free).down := rfl
  rw [e]
  have e2 : (Ad.last ⟨false, n⟩ free).brief = b4 (Ad.last ⟨false, n⟩ free).n := rfl
  have e3 : (Ad.last ⟨false, n⟩ free).down.brief = b4 ((Ad.last ⟨false, n⟩ free).n - 1) := rfl
  rw [e2, e3]
  generalize (Ad.last ⟨false, n⟩ free).n = L at hodd
  refine ⟨UInt8.ofNat (L - 1), ?_, ?_⟩
  · show [UInt8.ofNat (L / 16777216), UInt8.ofNat (L / 65536), UInt8.ofNat (L / 256), UInt8.ofNat (L - 1)] = b4 (L - 1)
    unfold b4
    rw [show (L - 1) / 16777216 = L / 16777216 by omega, show (L - 1) / 65536 = L / 65536 by omega, show (L - 1) / 256 = L / 256 by omega]
  · show (UInt8.ofNat (L - 1)).toNat + 1 = (UInt8.ofNat L).toNat
    rw [toNat_ofNat, toNat_ofNat]
    omega

theorem lastIP_loop (vi vm : Value) (a : Ad) (free : Nat) (w : World) (hi : BriefAt w vi a) (hm : IPAt w vm (a.mask free)) (oa : a.ok) (hf : free ≤ a.room) (h1f : 1 ≤ free) :
    Calls Try.prog 81 #[.agg #[vi, vm]] w (IPPost w (a.endOf free).brief) := by
  have hnil := fun w a n c => run_neq_slice_nil_any (P := Try.prog) w 46 5 a n c 0 0 Try.underlying46
  have HEND := Lib.hid (fun (h6 : a.six = true) => end_six (a := a) (free := free) h6)
  have HEND4 := Lib.hid (fun (h6 : a.six = false) => end_four (a := a) (free := free) h6 oa hf h1f)
  have HOR := Lib.hid (fun i (h : i < a.width) => or_ad a free i oa hf h)
  have HL := Lib.hid (show (a.last free).brief.length = a.width by rw [Ad.brief_length]; rfl)
  obtain ⟨bi, oi, ki, rfl, li, gi1, gi2, gic⟩ := BriefAt.out hi
  obtain ⟨bm, om, km, rfl, lm, gm1, gm2, gmc⟩ := IPAt.out hm
  rw [Ad.mask_length] at gm1 gmc ⊢
  have HGI := Lib.hid gic
  have HGM := Lib.hid gmc
  have HT := Lib.hid (fun w' (hb : Below w.heap.size w w') => to4_any _ a w' (.inr (IPAt.keep hi hb)))
  have hW16 := (width_cases a).2
  have hW0 := (width_cases a).1
  obtain ⟨i0, hinf, hz0, hz1, hz2⟩ := info_parts infoU8
  have HINF := Lib.hid hinf
  obtain ⟨W, hW⟩ : ∃ W, W = a.width := ⟨_, rfl⟩
  rw [← hW] at HOR HL HGI HGM HT hW16 hW0 gi1 gm1 ⊢
  have HST := Lib.hid (show LastRel w (.slice (some ⟨bi, oi, none⟩) W ki) (.slice (some ⟨bm, om, none⟩) W km) (.slice none 0 0) ((a.last free).brief.take 0) (w.alloc (.cells #[.slice (some ⟨bi, oi, none⟩) W ki, .slice (some ⟨bm, om, none⟩) W km] 60)) from
    ⟨heap_alloc_new w _, World.ownsRow_nil _ _ _ _, (Below.refl w.heap.size w).alloc (Nat.le_refl _) _, by simp⟩)
  clear hi hm oa hf gic gmc hW hinf
  go_enter Try.func81, Try.ntmps81
  go_wp2_with fail
  go_loopw [3, 4] (fun v i wr => ∃ k : Nat, k ≤ W ∧ i = .int .i64 k ∧ Hid (LastRel w (.slice (some ⟨bi, oi, none⟩) W ki) (.slice (some ⟨bm, om, none⟩) W km) v ((a.last free).brief.take k) wr)) (fun _ i _ => W - (intOf i).toNat)
  case atStart => exact ⟨0, Nat.zero_le _, rfl, HST.out⟩
  case round =>
    obtain ⟨k, hk, rfl, hr⟩ := hrel
    have hbox := hr.out.box
    have d0 : _ = some _ := cell_of_row _ w.heap.size 0 _ _ _ hbox
    have d1 : _ = some _ := cell_of_row _ w.heap.size 1 _ _ _ hbox
    by_cases hlt : k < W
    · have c1 := (hr.out.below.cell (p := ⟨bi, oi + k, none⟩) li).trans (HGI.out k hlt)
      have c2 := (hr.out.below.cell (p := ⟨bm, om + k, none⟩) lm).trans (HGM.out k hlt)
      have hor := HOR.out k hlt
      have g1 := HGI.out k hlt
      have g2 := HGM.out k hlt
      have htk := take_getD (a.last free).brief k (by rw [HL.out]; exact hlt)
      have hbuf := take_owns k (by rw [HL.out]; omega) hr.out.buf
      have hown := hr.out.buf.lt
      have hsz := hr.out.size
      generalize a.brief.getD k 0 = x1 at c1 hor g1
      generalize (a.mask free).getD k 0 = x2 at c2 hor g2
      have G1 := Lib.hid g1
      have G2 := Lib.hid g2
      clear g1 g2
      generalize (a.last free).brief.getD k 0 = y at hor htk
      rw [← not_u8] at hor
      have HOR2 := Lib.hid hor
      clear hor
      have HTK := Lib.hid htk
      have HBUF := Lib.hid hbuf
      have HOWN := Lib.hid hown
      have q1 : (0 : Int) ≤ (k : Int) := by omega
      have q2 : (k : Int) < W := by omega
      clear htk hbuf hown hbox
      go_wp2_with fail
      go_region_held3 (fun w' => w'.cell? ⟨w.heap.size, 0, none⟩ = some (.slice (some ⟨bi, oi, none⟩) W ki) ∧ w'.cell? ⟨w.heap.size, 1, none⟩ = some (.slice (some ⟨bm, om, none⟩) W km) ∧ w'.cell? ⟨bi, oi + k, none⟩ = some (.int .u8 x1.toNat) ∧ w'.cell? ⟨bm, om + k, none⟩ = some (.int .u8 x2.toNat)) (first | go_keep | exact hkeep.out) ((refine step_append_lies _ (by rfl) _ _ _ (by rfl) (w.heap.size + 1) 5 i0 (.int .u8 0) 1 1 Try.underlying46 HINF.out hz0 hz1 hz2 (by rfl) (by omega) _ k (ipv ((a.last free).brief.take k)) (by rfl) ((HBUF.out.alloc _).drew) ⟨wr.heap.size, 0, none⟩ 1 1 [.int .u8 (bits .or .u8 (x1.toNat : Int) (bits .xor .u8 (if IntKind.u8.signed = true then -1 else IntKind.u8.max) (x2.toNat : Int)))] (by rfl) (by rfl) (World.news_of_block (cs := #[.int .u8 (bits .or .u8 (x1.toNat : Int) (bits .xor .u8 (if IntKind.u8.signed = true then -1 else IntKind.u8.max) (x2.toNat : Int)))]) (t := 5) (fr := (0, 0)) (heap_alloc_new wr _)) (by simp [Value.oneCell']) (by omega) (by unfold maxLen; omega) (by omega) (by simp; omega) (wr.heap.size + 1) (by simp) ?_; intro g cap w2 hown1 hgrow hat hlt2; have HN := Lib.hid (hr.out.grow hgrow (last_buf hown1 HOR2.out HTK.out (by rw [List.length_take, HL.out]; omega))); have e0 : w2.cell? ⟨w.heap.size, 0, none⟩ = some (.slice (some ⟨bi, oi, none⟩) W ki) := cell_of_row w2 _ 0 _ _ _ HN.out.box; have e1 : w2.cell? ⟨w.heap.size, 1, none⟩ = some (.slice (some ⟨bm, om, none⟩) W km) := cell_of_row w2 _ 1 _ _ _ HN.out.box; have e2 := (HN.out.below.cell (p := ⟨bi, oi + k, none⟩) li).trans G1.out; have e3 := (HN.out.below.cell (p := ⟨bm, om + k, none⟩) lm).trans G2.out; clear hown1 hgrow hat))
      go_wp2_with fail
      go_roundw
      case rel => exact ⟨k + 1, by omega, by go_num, HN.out⟩
      case measure => simp [intOf]; omega
    · obtain rfl : k = W := by omega
      have HR := Lib.hid hr.out
      have HBUF := Lib.hid (show Buf wr (w.heap.size + 1) _ (a.last free).brief by
        have := hr.out.buf
        rw [List.take_of_length_le (by rw [HL.out]; exact Nat.le_refl _)] at this
        exact this)
      have HT2 := Lib.hid (HT.out wr hr.out.below)
      clear hbox HT HOR
      cases h6 : a.six with
      | true =>
        have HE := Lib.hid (HEND.out h6)
        rw [h6] at HT2
        clear h6 HEND4
        go_wp2_with fail
        refine HT2.out.mono ?_
        rintro e w' ⟨v', rfl, hv, rfl⟩
        obtain rfl : v' = .slice none 0 0 := hv
        go_wp2_with fail
        go_ret
        refine ⟨_, rfl, ⟨?_, by rw [HE.out, HL.out]; omega⟩, HR.out.below⟩
        rw [HE.out]
        exact SlAt.of_owns HBUF.out
      | false =>
        obtain ⟨y, hy1, hy2⟩ := HEND4.out h6
        have hW4 : k = 4 := by rw [← HL.out, Ad.brief_length]; unfold Ad.width; rw [show (a.last free).six = a.six from rfl, h6]; rfl
        subst hW4
        rw [h6] at HT2
        have hown := HBUF.out
        unfold Buf at hown
        rw [HL.out] at hown
        obtain ⟨g, cap, hv3⟩ := owns_form hown (by omega)
        have hro := RowAt.of_owns (hv3 ▸ hown)
        have c3 := hro.1.cell 3 (by rw [HL.out]; omega)
        have z3 := hro.1.free 3
        rw [← hy2] at c3
        have HY := Lib.hid hy1
        have HRO := Lib.hid hro.1
        have hg := hro.2.1
        have hcap := hro.2.2.1
        have hcm : cap ≤ 9223372036854775807 := by have := hro.2.2.2.1; unfold maxLen at this; exact this
        have hylt : y.toNat ≤ 254 := by have := ((a.last free).brief.getD 3 0).toNat_lt; omega
        clear h6 HEND hy1 hy2 hown hro HBUF
        subst hv3
        go_wp2_with fail
        refine HT2.out.mono ?_
        rintro e w' ⟨v', rfl, hv, rfl⟩
        have hv2 : BriefAt wr v' a := hv
        obtain ⟨b2, o2, cap2, rfl, _⟩ := BriefAt.out hv2
        clear hv hv2
        go_wp2_with fail
        have hst := HRO.out.store 3 y
        rw [HY.out] at hst
        have hl4 : (a.endOf free).brief.length = 4 := by rw [← HY.out, List.length_set, HL.out]
        have hsl := hst.sl (cap := cap) (by omega) (by unfold maxLen; exact hcm)
        rw [hl4] at hsl
        go_ret
        exact ⟨_, rfl, ⟨hsl, by omega⟩, HR.out.below.setCell (by show w.heap.size ≤ g; omega) _⟩

theorem endOf_ok {a : Ad} {free : Nat} (ok : a.ok) (hf : free ≤ a.room) : (a.endOf free).ok := by
  have h := last_ok ok hf
  unfold Ad.endOf
  split
  · exact h
  · unfold Ad.ok at h ⊢
    exact Nat.lt_of_le_of_lt (Nat.sub_le _ _) h

end Go.Proofs.Ytnehofekgnbelaa

/-
  The world within allocator's (*Range).Canonicalize.
-/
namespace Go.Proofs.Ytnehofekgnbelaa
open Go.RowKit
set_option linter.unusedVariables false
set_option maxRecDepth 100000
set_option maxHeartbeats 1000000

/-- An address or nothing; in its standard form, if so told. -/
def OptIn (br : Bool) (w : World) (v : Value) : Option Ad → Prop
  | none => v = .slice none 0 0
  | some a => if br then BriefAt w v a else AdAt w v a
theorem OptIn.opt {br : Bool} {w : World} {v : Value} {o : Option Ad} (h : OptIn br w v o) : OptAt w v o := by
  cases o with
  | none => exact h
  | some a => cases br with
    | true => exact .inr h
    | false => exact h
theorem OptIn.keep {br : Bool} {w w' : World} {v : Value} {o : Option Ad} (h : OptIn br w v o) (hb : Below w.heap.size w w') : OptIn br w' v o := by
  cases o with
  | none => exact h
  | some a => cases br with
    | true => exact BriefAt.keep h hb
    | false => exact AdAt.keep h hb
theorem OptIn.set {br : Bool} {w : World} {v : Value} {o : Option Ad} (h : OptIn br w v o) {p : Addr} {z : Value} (hp : ∀ x : UInt8, w.cell? p ≠ some (u8v x)) : OptIn br (w.setCell p z) v o := by
  cases o with
  | none => exact h
  | some a => cases br with
    | true => exact IPAt.set h hp
    | false => exact AdAt.set h hp

/-- The range's five cells, which may be written, in a world in which its block alone has turned. -/
structure RgW (w0 : World) (B o : Nat) (v0 v1 vi vm v4 : Value) (w : World) : Prop where
  at_ : RgAt w B o v0 v1 vi vm v4
  f0 : w.frozen? ⟨B, o, none⟩ = false
  f1 : w.frozen? ⟨B, o + 1, none⟩ = false
  f2 : w.frozen? ⟨B, o + 2, none⟩ = false
  f4 : w.frozen? ⟨B, o + 4, none⟩ = false
  rest : w0.grownBy w (some B)
section
variable {w0 w w' : World} {B o : Nat} {v0 v1 vi vm v4 : Value}
theorem RgW.on (h : RgW w0 B o v0 v1 vi vm v4 w) (hb : Below w.heap.size w w') : RgW w0 B o v0 v1 vi vm v4 w' :=
  ⟨h.at_.keep hb, (hb.frozen h.at_.lt).trans h.f0, (hb.frozen h.at_.lt).trans h.f1, (hb.frozen h.at_.lt).trans h.f2, (hb.frozen h.at_.lt).trans h.f4,
    h.rest.andThen (row' := none) ⟨hb.os, hb.tape, hb.output, hb.size, fun k hk _ => hb.block k hk⟩ (fun j hj => by cases hj)⟩
theorem grown_set {k : Nat} (h : w0.grownBy w (some B)) (v : Value) : w0.grownBy (w.setCell ⟨B, k, none⟩ v) (some B) :=
  ⟨h.os, h.tape, h.output, by have := h.size; simp; exact this, fun i hi hne => by
    rw [Below.heap_setCell _ _ _ _ (fun e => hne (by rw [e]))]
    exact h.block i hi hne⟩
theorem RgW.set0 (h : RgW w0 B o v0 v1 vi vm v4 w) (v : Value) : RgW w0 B o v v1 vi vm v4 (w.setCell ⟨B, o, none⟩ v) := by
  refine ⟨⟨?_, ?_, ?_, ?_, ?_⟩, ?_, ?_, ?_, ?_, grown_set h.rest v⟩
  · exact World.cell?_setCell_same _ _ _ h.at_.c0
  · rw [World.cell?_setCell_other _ _ _ _ (by simp)]; exact h.at_.c1
  · rw [World.cell?_setCell_other _ _ _ _ (by simp)]; exact h.at_.c2
  · rw [World.cell?_setCell_other _ _ _ _ (by simp)]; exact h.at_.c3
  · rw [World.cell?_setCell_other _ _ _ _ (by simp)]; exact h.at_.c4
  · simp [go_sem, h.f0]
  · simp [go_sem, h.f1]
  · simp [go_sem, h.f2]
  · simp [go_sem, h.f4]
theorem RgW.set1 (h : RgW w0 B o v0 v1 vi vm v4 w) (v : Value) : RgW w0 B o v0 v vi vm v4 (w.setCell ⟨B, o + 1, none⟩ v) := by
  refine ⟨⟨?_, ?_, ?_, ?_, ?_⟩, ?_, ?_, ?_, ?_, grown_set h.rest v⟩
  · rw [World.cell?_setCell_other _ _ _ _ (by simp)]; exact h.at_.c0
  · exact World.cell?_setCell_same _ _ _ h.at_.c1
  · rw [World.cell?_setCell_other _ _ _ _ (by simp)]; exact h.at_.c2
  · rw [World.cell?_setCell_other _ _ _ _ (by simp)]; exact h.at_.c3
  · rw [World.cell?_setCell_other _ _ _ _ (by simp)]; exact h.at_.c4
  · simp [go_sem, h.f0]
  · simp [go_sem, h.f1]
  · simp [go_sem, h.f2]
  · simp [go_sem, h.f4]
theorem RgW.set2 (h : RgW w0 B o v0 v1 vi vm v4 w) (v : Value) : RgW w0 B o v0 v1 v vm v4 (w.setCell ⟨B, o + 2, none⟩ v) := by
  refine ⟨⟨?_, ?_, ?_, ?_, ?_⟩, ?_, ?_, ?_, ?_, grown_set h.rest v⟩
  · rw [World.cell?_setCell_other _ _ _ _ (by simp)]; exact h.at_.c0
  · rw [World.cell?_setCell_other _ _ _ _ (by simp)]; exact h.at_.c1
  · exact World.cell?_setCell_same _ _ _ h.at_.c2
  · rw [World.cell?_setCell_other _ _ _ _ (by simp)]; exact h.at_.c3
  · rw [World.cell?_setCell_other _ _ _ _ (by simp)]; exact h.at_.c4
  · simp [go_sem, h.f0]
  · simp [go_sem, h.f1]
  · simp [go_sem, h.f2]
  · simp [go_sem, h.f4]
theorem RgW.set4 (h : RgW w0 B o v0 v1 vi vm v4 w) (v : Value) : RgW w0 B o v0 v1 vi vm v (w.setCell ⟨B, o + 4, none⟩ v) := by
  refine ⟨⟨?_, ?_, ?_, ?_, ?_⟩, ?_, ?_, ?_, ?_, grown_set h.rest v⟩
  · rw [World.cell?_setCell_other _ _ _ _ (by simp)]; exact h.at_.c0
  · rw [World.cell?_setCell_other _ _ _ _ (by simp)]; exact h.at_.c1
  · rw [World.cell?_setCell_other _ _ _ _ (by simp)]; exact h.at_.c2
  · rw [World.cell?_setCell_other _ _ _ _ (by simp)]; exact h.at_.c3
  · exact World.cell?_setCell_same _ _ _ h.at_.c4
  · simp [go_sem, h.f0]
  · simp [go_sem, h.f1]
  · simp [go_sem, h.f2]
  · simp [go_sem, h.f4]
end

/-- The range so far: its texts' addresses, which of them have their standard form. -/
structure Canon (w0 : World) (B o : Nat) (v0 v1 vi vm v4 : Value) (a : Ad) (free : Nat) (b0 b1 b4 : Bool) (o1 o2 o3 : Option Ad) (w : World) : Prop where
  rg : RgW w0 B o v0 v1 vi vm v4 w
  s : OptIn b0 w v0 o1
  e : OptIn b1 w v1 o2
  g : OptIn b4 w v4 o3
  net : BriefAt w vi a
  mask : IPAt w vm (a.mask free)
section
variable {w0 w w' : World} {B o : Nat} {v0 v1 vi vm v4 v : Value} {a : Ad} {free : Nat} {b0 b1 b4 b : Bool} {o1 o2 o3 x : Option Ad}
theorem Canon.on (h : Canon w0 B o v0 v1 vi vm v4 a free b0 b1 b4 o1 o2 o3 w) (hb : Below w.heap.size w w') : Canon w0 B o v0 v1 vi vm v4 a free b0 b1 b4 o1 o2 o3 w' :=
  ⟨h.rg.on hb, h.s.keep hb, h.e.keep hb, h.g.keep hb, BriefAt.keep h.net hb, IPAt.keep h.mask hb⟩
theorem noslice {p : Addr} {b : Option Addr} {n c : Nat} (h : w.cell? p = some (.slice b n c)) : ∀ x : UInt8, w.cell? p ≠ some (u8v x) := fun x => by rw [h]; simp [u8v]
theorem OptIn.slice (h : OptIn b w v x) : ∃ b n c, v = .slice b n c := OptAt.slice h.opt
theorem Canon.set0 (h : Canon w0 B o v0 v1 vi vm v4 a free b0 b1 b4 o1 o2 o3 w) (hv : OptIn b w v x) : Canon w0 B o v v1 vi vm v4 a free b b1 b4 x o2 o3 (w.setCell ⟨B, o, none⟩ v) := by
  obtain ⟨_, _, _, hs⟩ := h.s.slice
  have hn := noslice (hs ▸ h.rg.at_.c0)
  exact ⟨h.rg.set0 v, hv.set hn, h.e.set hn, h.g.set hn, IPAt.set h.net hn, IPAt.set h.mask hn⟩
theorem Canon.set1 (h : Canon w0 B o v0 v1 vi vm v4 a free b0 b1 b4 o1 o2 o3 w) (hv : OptIn b w v x) : Canon w0 B o v0 v vi vm v4 a free b0 b b4 o1 x o3 (w.setCell ⟨B, o + 1, none⟩ v) := by
  obtain ⟨_, _, _, hs⟩ := h.e.slice
  have hn := noslice (hs ▸ h.rg.at_.c1)
  exact ⟨h.rg.set1 v, h.s.set hn, hv.set hn, h.g.set hn, IPAt.set h.net hn, IPAt.set h.mask hn⟩
theorem Canon.set4 (h : Canon w0 B o v0 v1 vi vm v4 a free b0 b1 b4 o1 o2 o3 w) (hv : OptIn b w v x) : Canon w0 B o v0 v1 vi vm v a free b0 b1 b o1 o2 x (w.setCell ⟨B, o + 4, none⟩ v) := by
  obtain ⟨_, _, _, hs⟩ := h.g.slice
  have hn := noslice (hs ▸ h.rg.at_.c4)
  exact ⟨h.rg.set4 v, h.s.set hn, h.e.set hn, hv.set hn, IPAt.set h.net hn, IPAt.set h.mask hn⟩
theorem Canon.begin (h : RgW w0 B o v0 v1 vi vm v4 w) (hs : OptIn b0 w v0 o1) (he : OptIn b1 w v1 o2) (hg : OptIn b4 w v4 o3) (hi : AdAt w vi a) (hm : IPAt w vm (a.mask free)) (hv : BriefAt w v a) :
    Canon w0 B o v0 v1 v vm v4 a free b0 b1 b4 o1 o2 o3 (w.setCell ⟨B, o + 2, none⟩ v) := by
  obtain ⟨_, _, _, _, hs'⟩ := hi.slice
  have hn := noslice (hs' ▸ h.at_.c2)
  exact ⟨h.set2 v, hs.set hn, he.set hn, hg.set hn, IPAt.set hv hn, IPAt.set hm hn⟩
/-- What Contains looks at. -/
theorem Canon.cont {d : Ad} {u : Value} (h : Canon w0 B o v0 v1 vi vm v4 a free b0 b1 b4 o1 o2 o3 w) (hu : AdAt w u d) (oa : a.ok) (ob : d.ok) (k1 : ∀ s, o1 = some s → s.ok) (k2 : ∀ s, o2 = some s → s.ok) (hf : free ≤ a.room) :
    ContIn w B o v0 v1 vi vm v4 u a free o1 o2 d := ⟨h.rg.at_, h.s.opt, h.e.opt, h.net, h.mask, hu, oa, ob, k1, k2, hf⟩
end

/-- Has the range a standard form? -/
def canonP (a : Ad) (free : Nat) (o1 o2 : Option Ad) : Bool :=
  decide (2 ≤ free) && decide (a.net free = a) && (match o1 with | none => true | some s => cont a free (some s) o2 s) && (match o2 with | none => true | some e => cont a free (some (o1.getD a.up)) (some e) e)

theorem up_ok {a : Ad} {free : Nat} (ok : a.ok) (hf : free ≤ a.room) (h2 : 2 ≤ free) (hn : a.net free = a) : a.up.ok := by
  have hl := last_ok ok hf
  have hn2 : a.n / 2 ^ free * 2 ^ free = a.n := congrArg Ad.n hn
  unfold Ad.ok at hl ⊢
  have h4 : 2 ^ 2 ≤ 2 ^ free := Nat.pow_le_pow_right (by decide) h2
  have h5 : (a.last free).n = a.n + (2 ^ free - 1) := by show a.n / 2 ^ free * 2 ^ free + _ = _; rw [hn2]
  have h6 : (a.last free).six = a.six := rfl
  have h7 : a.up.six = a.six := rfl
  have h8 : a.up.n = a.n + 1 := rfl
  rw [h5, h6] at hl
  rw [h7, h8]
  have : a.n + 1 ≤ a.n + (2 ^ free - 1) := by omega
  exact Nat.lt_of_le_of_lt this hl

end Go.Proofs.Ytnehofekgnbelaa

/-
  Texts put together: Str, Next1, NetOf.
-/
import Derived.Test.YtnehofekgnbelaaM16
import Derived.Test.YtnehofekgnbelaaM17
import Derived.Laws.BytesString
import Derived.Laws.OwnMore
import Derived.Test.YtnehofekgnbelaaM12
import Derived.Test.YtnehofekgnbelaaM11
import Derived.Test.YtnehofekgnbelaaM13

/-
  net.IP's appendTo, String: the text of an address.
-/
namespace Go.Proofs.Ytnehofekgnbelaa
open Go.RowKit
set_option linter.unusedVariables false
set_option maxRecDepth 100000
set_option maxHeartbeats 1000000

theorem foldl_push (l : List UInt8) : ∀ r : ByteArray, bl (l.foldl (fun r n => r.push n) r) = bl r ++ l := by
  induction l with
  | nil => intro r; simp
  | cons x l ih => intro r; rw [List.foldl_cons, ih]; simp [bl]
theorem foldl_bytes (l : List UInt8) : ∀ r : ByteArray, bl ((l.map fun x => (x.toNat : Int)).foldl (fun r n => r.push (UInt8.ofNat n.toNat)) r) = bl r ++ l := by
  induction l with
  | nil => intro r; simp
  | cons x l ih =>
    intro r
    rw [List.map_cons, List.foldl_cons, ih]
    simp [bl]

/-- The text of a row of bytes. -/
theorem Buf.conv {w : World} {base : Nat} {v : Value} {l : List UInt8} (h : Buf w base v l) (h0 : 0 < l.length) :
    ∃ s : ByteArray, bl s = l ∧ (convert 45 9 v).run Try.prog w = .ok (.string s) w := by
  rcases h.2 with ⟨_, hn⟩ | ⟨g, cap, cur, rfl, _⟩
  · omega
  · refine ⟨(l.map fun x => (x.toNat : Int)).foldl (fun r n => r.push (UInt8.ofNat n.toNat)) ByteArray.empty, ?_, ?_⟩
    rotate_left
    · rw [run_convert_bytes_string _ 45 9 5 _ _ _ Try.underlying45 Try.underlying5 Try.underlying9]
      refine run_bytesToString _ ⟨g, 0, none⟩ l.length cap (l.map fun x => (x.toNat : Int)) ?_
      have hl := run_loadCells_list (P := Try.prog) w ⟨g, 0, none⟩ (ipv l) (fun j v hj => World.ownsRow.cells h rfl j v hj)
      rw [ipv_length] at hl
      rw [hl]
      congr 2
      simp [ipv, u8v, Function.comp_def]
    · rw [foldl_bytes]; simp [bl]

theorem ipAppendTo_any (vi vb : Value) (a : Ad) (base : Nat) (l : List UInt8) (w : World) (h : AdAt w vi a) (ok : a.ok) (hB : Buf w base vb l) (hb : base ≤ w.heap.size) (hl : l.length ≤ 900) :
    Calls Try.prog 57 #[vi, vb] w (BufPost w base vb l a.text) := by
  have HT := Lib.hid (to4_any vi a w h)
  have HP := Lib.hid (fun w base v l => appendTo_any a base v l w ok)
  have HF := Lib.hid (fun v w h => addrFromSlice_any v a w h ok)
  have HB := Lib.hid hB
  have HH := Lib.hid h
  obtain ⟨m, hm⟩ : ∃ m, m = a.text := ⟨_, rfl⟩
  rw [← hm] at HP ⊢
  clear h hB ok hm
  generalize a.hi = hi at HP HF
  generalize a.lo = lo at HP HF
  obtain ⟨six, n⟩ := a
  cases six with
  | true =>
    have hbr : BriefAt w vi ⟨true, n⟩ := HH.out.elim (fun h => h) (fun h => h)
    have ho := BriefAt.out hbr
    have HBR := Lib.hid hbr
    obtain ⟨b, off, cap, rfl, _⟩ := ho
    clear hbr
    have hw : (⟨true, n⟩ : Ad).width = 16 := rfl
    rw [hw] at HBR HT HH ⊢
    clear hw
    unfold naddr at HP HF
    go_enter Try.func57, Try.ntmps57
    go_wp2_with fail
    refine HT.out.mono ?_
    rintro e w1 ⟨v', rfl, hv, rfl⟩
    obtain rfl : v' = .slice none 0 0 := hv
    go_wp2_with fail
    refine (HF.out _ _ HBR.out).mono ?_
    rintro e w1 ⟨rfl, hb1⟩
    have HG1 := Lib.hid ((Grown.refl w vb).on hb1)
    have HB1 := Lib.hid (HB.out.keep hb1)
    have hb1' : base ≤ w1.heap.size := Nat.le_trans hb hb1.size
    clear hb1
    go_wp2_with fail
    refine (HP.out _ _ _ _ (HB1.out.alloc _) (by simp; omega) hl).mono ?_
    rintro e w2 ⟨v2, rfl, hB2, hG2⟩
    have HB2 := Lib.hid hB2
    have HG2 := Lib.hid (HG1.out.trans hG2.before)
    clear hB2 hG2
    go_wp2_with fail
    go_ret
    exact ⟨_, rfl, HB2.out, HG2.out⟩
  | false =>
    go_enter Try.func57, Try.ntmps57
    go_wp2_with fail
    refine HT.out.mono ?_
    rintro e w1 ⟨v', rfl, hv, rfl⟩
    have hbr : BriefAt w v' ⟨false, n⟩ := hv
    have ho := BriefAt.out hbr
    have HBR := Lib.hid hbr
    obtain ⟨b, off, cap, rfl, _⟩ := ho
    clear hbr hv
    have hw : (⟨false, n⟩ : Ad).width = 4 := rfl
    rw [hw] at HBR ⊢
    clear hw
    unfold naddr at HP HF
    go_wp2_with fail
    refine (HF.out _ _ HBR.out).mono ?_
    rintro e w1 ⟨rfl, hb1⟩
    have HG1 := Lib.hid ((Grown.refl w vb).on hb1)
    have HB1 := Lib.hid (HB.out.keep hb1)
    have hb1' : base ≤ w1.heap.size := Nat.le_trans hb hb1.size
    clear hb1
    go_wp2_with fail
    refine (HP.out _ _ _ _ (HB1.out.alloc _) (by simp; omega) hl).mono ?_
    rintro e w2 ⟨v2, rfl, hB2, hG2⟩
    have HB2 := Lib.hid hB2
    have HG2 := Lib.hid (HG1.out.trans hG2.before)
    clear hB2 hG2
    go_wp2_with fail
    go_ret
    exact ⟨_, rfl, HB2.out, HG2.out⟩

theorem make_buf (c : Nat) (w : World) (hc : c ≤ 1000000) :
    ∃ w', (Instr.makeSlice 45 (.int .i64 0) (.int .i64 (c : Int))).run Try.prog w = .ok (.slice (some ⟨w.heap.size, 0, none⟩) 0 c) w' ∧
      Buf w' w.heap.size (.slice (some ⟨w.heap.size, 0, none⟩) 0 c) [] ∧ Below w.heap.size w w' := by
  obtain ⟨i0, hi, hz0, hz1, hz2⟩ := info_parts infoU8
  obtain ⟨w', h1, h2, h3⟩ := run_makeSlice_owned (P := Try.prog) (w := w) w.heap.size 45 5 i0 (.int .u8 0) 1 Try.underlying45 hi hz0 hz1 .i64 .i64 c (by omega) (by rw [hz2]; omega) (by unfold maxLen; omega) (Nat.le_refl _)
  exact ⟨w', h1, h2, ⟨h3.os, h3.tape, h3.output, h3.size, fun k hk => h3.block k hk (by simp)⟩⟩

theorem decL_pos (n : Nat) : 0 < (decL n).length := by
  by_cases h : 9 < n
  · rw [decL_of h]; simp
  · rw [decL_small h]; simp
theorem text_pos (a : Ad) : 0 < a.text.length := by
  unfold Ad.text
  split
  · simp [preL]
  · unfold quadL; simp; omega

theorem ipString_any (v : Value) (a : Ad) (w : World) (h : AdAt w v a) (ok : a.ok) :
    Calls Try.prog 34 #[v] w (TextPost w a.text) := by
  have hlen : ∃ b off n cap, v = .slice (some ⟨b, off, none⟩) n cap ∧ (n = 4 ∨ n = 16) := by
    rcases h with h | h
    · obtain ⟨b, off, cap, rfl, _⟩ := IPAt.out h
      exact ⟨b, off, _, cap, rfl, .inr a.long_length⟩
    · obtain ⟨b, off, cap, rfl, _⟩ := BriefAt.out h
      refine ⟨b, off, _, cap, rfl, ?_⟩
      unfold Ad.width
      split
      · exact .inr rfl
      · exact .inl rfl
  obtain ⟨b, off, n, cap, rfl, hn⟩ := hlen
  have HA := Lib.hid h
  have HP := Lib.hid (fun vi vb base l w h => ipAppendTo_any vi vb a base l w h ok)
  have HL := Lib.hid (text_pos a)
  obtain ⟨m, hm⟩ : ∃ m, m = a.text := ⟨_, rfl⟩
  rw [← hm] at HP HL ⊢
  clear h hm ok
  rcases hn with rfl | rfl
  · obtain ⟨w1, hmk, hB, hb⟩ := make_buf 15 w (by omega)
    have hmk2 : (Instr.makeSlice 45 (.int .i64 0) (.int .i64 15)).run Try.prog w = .ok (.slice (some ⟨w.heap.size, 0, none⟩) 0 15) w1 := hmk
    clear hmk
    have HB := Lib.hid hB
    have HB1 := Lib.hid hb
    have HK := Lib.hid (HA.out.keep hb)
    clear hB hb
    go_enter Try.func34, Try.ntmps34
    go_wp2_with fail
    refine (HP.out _ _ w.heap.size [] _ HK.out HB.out HB1.out.size (by simp)).mono ?_
    rintro e w2 ⟨v2, rfl, hB2, hG2⟩
    have hc := Buf.conv hB2 (by simpa using HL.out)
    obtain ⟨s, hs, hrun⟩ := hc
    have HS := Lib.hid hs
    have HG := Lib.hid (show Below w.heap.size w w2 from HB1.out.trans (hG2.below HB.out HB1.out.size))
    have hrun2 : (convert 45 9 v2).run Try.prog w2 = .ok (.string s) w2 := hrun
    clear hB2 hG2 hs hrun
    go_wp2_with fail
    go_ret
    exact ⟨s, rfl, by simpa using HS.out, HG.out⟩
  · obtain ⟨w1, hmk, hB, hb⟩ := make_buf 39 w (by omega)
    have hmk2 : (Instr.makeSlice 45 (.int .i64 0) (.int .i64 39)).run Try.prog w = .ok (.slice (some ⟨w.heap.size, 0, none⟩) 0 39) w1 := hmk
    clear hmk
    have HB := Lib.hid hB
    have HB1 := Lib.hid hb
    have HK := Lib.hid (HA.out.keep hb)
    clear hB hb
    go_enter Try.func34, Try.ntmps34
    go_wp2_with fail
    refine (HP.out _ _ w.heap.size [] _ HK.out HB.out HB1.out.size (by simp)).mono ?_
    rintro e w2 ⟨v2, rfl, hB2, hG2⟩
    have hc := Buf.conv hB2 (by simpa using HL.out)
    obtain ⟨s, hs, hrun⟩ := hc
    have HS := Lib.hid hs
    have HG := Lib.hid (show Below w.heap.size w w2 from HB1.out.trans (hG2.below HB.out HB1.out.size))
    have hrun2 : (convert 45 9 v2).run Try.prog w2 = .ok (.string s) w2 := hrun
    clear hB2 hG2 hs hrun
    go_wp2_with fail
    go_ret
    exact ⟨s, rfl, by simpa using HS.out, HG.out⟩

end Go.Proofs.Ytnehofekgnbelaa

/-
  impl.Next's closure: so many steps from an address on.
-/
namespace Go.Proofs.Ytnehofekgnbelaa
open Go.RowKit
set_option linter.unusedVariables false
set_option maxRecDepth 100000
set_option maxHeartbeats 1000000

theorem SlAt.set {w : World} {v : Value} {xs : List Value} (h : SlAt w v xs) {p : Addr} {z : Value} (hp : ∀ u ∈ xs, w.cell? p ≠ some u) : SlAt (w.setCell p z) v xs := by
  obtain ⟨ao, cap, rfl, hl, hm, hn, hc⟩ := h
  refine ⟨ao, cap, rfl, hl, hm, hn, fun a ha j u hu => ?_⟩
  have hcell := hc a ha j u hu
  have hne : a.add j ≠ p := fun e => hp u (List.mem_of_getElem? hu) (by rw [← e]; exact hcell)
  rw [World.cell?_setCell_other _ _ _ _ (by first | exact hne | exact hne.symm)]
  exact hcell
/-- A cell that holds no byte may be stored into: an address stays. -/
theorem IPAt.set {w : World} {v : Value} {bs : List UInt8} (h : IPAt w v bs) {p : Addr} {z : Value} (hp : ∀ x : UInt8, w.cell? p ≠ some (u8v x)) : IPAt (w.setCell p z) v bs :=
  ⟨h.1.set fun u hu => by
    simp only [ipv, List.mem_map] at hu
    obtain ⟨x, _, rfl⟩ := hu
    exact hp x, h.2⟩
theorem AdAt.set {w : World} {v : Value} {a : Ad} (h : AdAt w v a) {p : Addr} {z : Value} (hp : ∀ x : UInt8, w.cell? p ≠ some (u8v x)) : AdAt (w.setCell p z) v a :=
  h.elim (fun h => .inl (IPAt.set h hp)) (fun h => .inr (IPAt.set h hp))

/-- The world within the closure: the counter's box holds m, all else of old is as it was. -/
structure StepRel (w : World) (B : Nat) (m : Int) (wr : World) : Prop where
  row : wr.heap[B]? = some (.cells #[.int .i64 m] 3 (0, 0))
  rest : w.grownBy wr (some B)
theorem StepRel.on {w w1 w2 : World} {B : Nat} {m : Int} (h : StepRel w B m w1) (hb : Below w1.heap.size w1 w2) : StepRel w B m w2 :=
  ⟨row_on hb h.row, h.rest.andThen (row' := none) ⟨hb.os, hb.tape, hb.output, hb.size, fun k hk _ => hb.block k hk⟩ (fun j hj => by cases hj)⟩
theorem StepRel.store {w w1 : World} {B : Nat} {m : Int} (h : StepRel w B m w1) (m' : Int) : StepRel w B m' (w1.setCell ⟨B, 0, none⟩ (.int .i64 m')) := by
  refine ⟨heap_setCell_same w1 B 0 _ _ _ h.row, h.rest.os, h.rest.tape, h.rest.output, ?_, fun k hk hne => ?_⟩
  · have := h.rest.size; simp; exact this
  · rw [Below.heap_setCell _ _ _ _ (by intro e; exact hne (by rw [e]))]
    exact h.rest.block k hk hne
theorem StepRel.cell {w w1 : World} {B : Nat} {m : Int} (h : StepRel w B m w1) : w1.cell? ⟨B, 0, none⟩ = some (.int .i64 m) := cell_of_row w1 B 0 _ _ _ h.row
theorem StepRel.free {w w1 : World} {B : Nat} {m : Int} (h : StepRel w B m w1) : w1.frozen? ⟨B, 0, none⟩ = false := frozen_of_row w1 B 0 _ _ h.row
theorem StepRel.other {w w1 : World} {B k : Nat} {m : Int} {o : Obj} (h : StepRel w B m w1) (hk : w.heap[k]? = some o) (hne : k ≠ B) : w1.heap[k]? = some o := by
  rw [h.rest.block k (Array.getElem?_eq_some_iff.1 hk).1 (fun e => hne (by simpa using e))]
  exact hk

def Next1 (w : World) (B C : Nat) (l : List UInt8) (w' : World) : Prop := ∃ w1 t, w.grownBy w1 (some B) ∧ bl t = l ∧ w' = w1.setCell ⟨C, 0, none⟩ (.string t)

/-- The address so many steps from another one on. -/
def Ad.plus (a : Ad) (k : Int) : Ad := ⟨a.six, ((a.n : Int) + k).toNat⟩
def Ad.most (a : Ad) : Int := if a.six then 65535 else 4294967295
theorem plus_ok {a : Ad} {k : Int} (h0 : 0 ≤ (a.n : Int) + k) (h1 : (a.n : Int) + k ≤ a.most) : (a.plus k).ok := by
  unfold Ad.ok Ad.plus
  unfold Ad.most at h1
  simp only
  split <;> rename_i hs <;> simp [hs] at h1 <;> omega
theorem plus_zero (a : Ad) : a.plus 0 = a := by
  unfold Ad.plus
  rw [Int.add_zero, Int.toNat_natCast]
theorem plus_up (a : Ad) (k : Int) (h0 : 0 ≤ (a.n : Int) + k) : (a.plus k).up = a.plus (k + 1) := by
  unfold Ad.plus Ad.up
  simp only [Ad.mk.injEq, true_and]
  omega
theorem plus_down (a : Ad) (k : Int) (h0 : 0 < (a.n : Int) + k) : (a.plus k).down = a.plus (k - 1) := by
  unfold Ad.plus Ad.down
  simp only [Ad.mk.injEq, true_and]
  omega
theorem plus_n (a : Ad) (k : Int) (h0 : 0 ≤ (a.n : Int) + k) : ((a.plus k).n : Int) = (a.n : Int) + k := by
  unfold Ad.plus
  simp only
  omega

theorem next1_any (A B C : Nat) (s : ByteArray) (a : Ad) (k : Int) (w : World) (hA : w.heap[A]? = some (.cells #[.string s] 9 (0, 0))) (hB : w.heap[B]? = some (.cells #[.int .i64 k] 3 (0, 0)))
    (hC : w.heap[C]? = some (.cells #[.string ⟨#[]⟩] 9 (0, 0))) (hAB : A ≠ B) (hCB : C ≠ B) (ha : readL (bl s) = some a) (hs : s.size ≤ 1000) (k0 : -300 ≤ k) (k1 : k ≤ 300) (h0 : 0 ≤ (a.n : Int) + k) (h1 : (a.n : Int) + k ≤ a.most) :
    Calls Try.prog 31 #[.pointer (some ⟨A, 0, none⟩), .pointer (some ⟨B, 0, none⟩), .pointer (some ⟨C, 0, none⟩)] w (fun e w' => e = .returned (.tuple #[]) ∧ Next1 w B C (a.plus k).text w') := by
  have hok := readL_ok ha
  have hmost : (a.n : Int) ≤ a.most := by
    unfold Ad.ok at hok
    unfold Ad.most
    split <;> rename_i hsx <;> simp [hsx] at hok <;> omega
  have HO := Lib.hid (fun w => addressOf_any s a w ha hs)
  have HR0 := Lib.hid (show StepRel w B k w from ⟨hB, World.grownBy.refl _ _⟩)
  have HC := Lib.hid hC
  have HCB := Lib.hid hCB
  have HOK := Lib.hid (fun j (x0 : 0 ≤ (a.n : Int) + j) (x1 : (a.n : Int) + j ≤ a.most) => plus_ok (a := a) (k := j) x0 x1)
  have cA : w.cell? ⟨A, 0, none⟩ = some (.string s) := cell_of_row w A 0 _ _ _ hA
  generalize a.most = M at h1 hmost HOK
  clear hA hB hC hok ha hCB
  go_enter Try.func31, Try.ntmps31
  go_wp2_with fail
  refine (HO.out _).mono ?_
  rintro e w1 ⟨v1, rfl, hv1, hb1⟩
  have HV1 := Lib.hid (show AdAt w1 v1 (a.plus 0) by rw [plus_zero]; exact .inl hv1)
  have HR1 := Lib.hid (HR0.out.on hb1)
  clear hv1 hb1 cA
  by_cases hpos : 0 ≤ k
  · go_wp2_with fail
    go_loopw [3] (fun v wr => ∃ m : Int, 0 ≤ m ∧ m ≤ k ∧ wr.cell? ⟨B, 0, none⟩ = some (.int .i64 m) ∧ Hid (AdAt wr v (a.plus (k - m)) ∧ StepRel w B m wr)) (fun _ wr => match wr.cell? ⟨B, 0, none⟩ with | some (.int _ m) => m.toNat | _ => 0)
    case atStart => exact ⟨k, hpos, Int.le_refl _, HR1.out.cell, by rw [Int.sub_self]; exact HV1.out, HR1.out⟩
    case round =>
      obtain ⟨m, m0, mk, cB, hr⟩ := hrel
      have zB := hr.out.2.free
      by_cases hm : 0 < m
      · have t1 : decide ((0 : Int) < m) = true := decide_eq_true hm
        go_wp2_with fail
        refine (NextIP_any _ (a.plus (k - m)) _ hr.out.1 (HOK.out _ (by omega) (by omega))  (by rw [plus_up a _ (by omega)]; exact HOK.out _ (by omega) (by omega))).mono ?_
        rintro e w2 ⟨v2, rfl, hv2, hb2⟩
        rw [plus_up a _ (by omega), show k - m + 1 = k - (m - 1) by omega] at hv2
        have HV2 := Lib.hid (show AdAt w2 v2 (a.plus (k - (m - 1))) from .inr hv2)
        have HR2 := Lib.hid (hr.out.2.on hb2)
        have cB2 := HR2.out.cell
        have zB2 := HR2.out.free
        have HR3 := Lib.hid (HR2.out.store (m - 1))
        have HV3 := Lib.hid (HV2.out.set (p := ⟨B, 0, none⟩) (z := .int .i64 (m - 1)) (by intro x; rw [HR2.out.cell]; simp [u8v]))
        have HC3 := Lib.hid HR3.out.cell
        have hmw : m.toNat + (-m).toNat ≤ 300 := by omega
        have HCW := Lib.hid cB
        clear hv2 hb2 zB cB
        go_wp2_with fail
        go_roundw
        case rel => exact ⟨m - 1, by omega, by omega, HC3.out, HV3.out, HR3.out⟩
        case measure => rw [HC3.out, HCW.out]; simp; omega
      · obtain rfl : m = 0 := by omega
        go_wp2_with fail
        refine wp_loop_rounds 1 ?_
        rw [rounds_succ]
        have cC := cell_of_row _ C 0 _ _ _ (hr.out.2.other HC.out HCB.out)
        have zC := frozen_of_row _ C 0 _ _ (hr.out.2.other HC.out HCB.out)
        go_wp2_with fail
        refine (ipString_any _ (a.plus k) _ (by have := hr.out.1; simpa using this) (HOK.out k h0 h1)).mono ?_
        rintro e w5 ⟨t, rfl, ht, hb5⟩
        have HR5 := Lib.hid (hr.out.2.on hb5)
        have HT := Lib.hid ht
        have cC5 := cell_of_row _ C 0 _ _ _ (HR5.out.other HC.out HCB.out)
        have zC5 := frozen_of_row _ C 0 _ _ (HR5.out.other HC.out HCB.out)
        clear ht hb5 cC zC
        go_wp2_with fail
        go_end0
        exact ⟨rfl, w5, t, HR5.out.rest, HT.out, rfl⟩
  · have t0 : decide ((0 : Int) < k) = false := decide_eq_false (by omega)
    have cB1 := HR1.out.cell
    go_wp2_with fail
    refine wp_loop_rounds 1 ?_
    rw [rounds_succ]
    go_wp2_with fail
    clear cB1 t0
    go_loopw [3] (fun v wr => ∃ m : Int, m ≤ 0 ∧ k ≤ m ∧ wr.cell? ⟨B, 0, none⟩ = some (.int .i64 m) ∧ Hid (AdAt wr v (a.plus (k - m)) ∧ StepRel w B m wr)) (fun _ wr => match wr.cell? ⟨B, 0, none⟩ with | some (.int _ m) => (-m).toNat | _ => 0)
    case atStart => exact ⟨k, (by omega), Int.le_refl _, HR1.out.cell, by rw [Int.sub_self]; exact HV1.out, HR1.out⟩
    case round =>
      obtain ⟨m, m0, mk, cB, hr⟩ := hrel
      have zB := hr.out.2.free
      by_cases hm : m < 0
      · have t1 : decide (m < (0 : Int)) = true := decide_eq_true hm
        go_wp2_with fail
        refine (PrevIP_any _ (a.plus (k - m)) _ hr.out.1 (HOK.out _ (by omega) (by omega)) (by have := plus_n a (k - m) (by omega); omega) (by rw [plus_down a _ (by omega)]; exact HOK.out _ (by omega) (by omega))).mono ?_
        rintro e w2 ⟨v2, rfl, hv2, hb2⟩
        rw [plus_down a _ (by omega), show k - m - 1 = k - (m + 1) by omega] at hv2
        have HV2 := Lib.hid (show AdAt w2 v2 (a.plus (k - (m + 1))) from .inr hv2)
        have HR2 := Lib.hid (hr.out.2.on hb2)
        have cB2 := HR2.out.cell
        have zB2 := HR2.out.free
        have HR3 := Lib.hid (HR2.out.store (m + 1))
        have HV3 := Lib.hid (HV2.out.set (p := ⟨B, 0, none⟩) (z := .int .i64 (m + 1)) (by intro x; rw [HR2.out.cell]; simp [u8v]))
        have HC3 := Lib.hid HR3.out.cell
        have hmw : m.toNat + (-m).toNat ≤ 300 := by omega
        have HCW := Lib.hid cB
        clear hv2 hb2 zB cB
        go_wp2_with fail
        go_roundw
        case rel => exact ⟨m + 1, by omega, by omega, HC3.out, HV3.out, HR3.out⟩
        case measure => rw [HC3.out, HCW.out]; simp; omega
      · obtain rfl : m = 0 := by omega
        have cC := cell_of_row _ C 0 _ _ _ (hr.out.2.other HC.out HCB.out)
        have zC := frozen_of_row _ C 0 _ _ (hr.out.2.other HC.out HCB.out)
        go_wp2_with fail
        refine (ipString_any _ (a.plus k) _ (by have := hr.out.1; simpa using this) (HOK.out k h0 h1)).mono ?_
        rintro e w5 ⟨t, rfl, ht, hb5⟩
        have HR5 := Lib.hid (hr.out.2.on hb5)
        have HT := Lib.hid ht
        have cC5 := cell_of_row _ C 0 _ _ _ (HR5.out.other HC.out HCB.out)
        have zC5 := frozen_of_row _ C 0 _ _ (HR5.out.other HC.out HCB.out)
        clear ht hb5 cC zC
        go_wp2_with fail
        go_end0
        exact ⟨rfl, w5, t, HR5.out.rest, HT.out, rfl⟩

end Go.Proofs.Ytnehofekgnbelaa

/-
  impl.netOf of a net's text.
-/
namespace Go.Proofs.Ytnehofekgnbelaa
open Go.RowKit
set_option linter.unusedVariables false
set_option maxRecDepth 100000
set_option maxHeartbeats 1000000

def NetPost (w : World) (a : Ad) (free : Nat) (e : Ending) (w' : World) : Prop :=
  ∃ vi vm, e = .returned (.tuple #[.agg #[vi, vm], .bool true]) ∧ LongAt w' vi a ∧ IPAt w' vm (a.mask free) ∧ Below w.heap.size w w'

theorem netOf_any (s : ByteArray) (a : Ad) (free : Nat) (w : World) (hs : s.size ≤ 1000) (h : NetOf (bl s) a free) :
    Calls Try.prog 76 #[.string s] w (NetPost w a free) := by
  have HC := Lib.hid (fun w => parseCIDR_any s a free w hs h)
  clear h
  go_enter Try.func76, Try.ntmps76
  go_wp2_with fail
  refine (HC.out _).mono ?_
  rintro e w1 ⟨v, vi, vm, b, rfl, hv, hrow, hm, hb1⟩
  have hk := nz5_old' hb1
  have HV := Lib.hid hv
  have HM := Lib.hid hm
  have HB := Lib.hid hk.2
  obtain ⟨bm, om, cm, rfl, _⟩ := IPAt.out hm
  obtain ⟨bv, ov, cv, rfl, _⟩ := IPAt.out hv
  have q0 : w1.cell? ⟨w.heap.size, 0, none⟩ = some (.slice none 0 0) := cell_of_row w1 _ 0 _ _ _ hk.1
  have q1 : w1.cell? ⟨w.heap.size, 1, none⟩ = some (.slice none 0 0) := cell_of_row w1 _ 1 _ _ _ hk.1
  have f0 : w1.frozen? ⟨w.heap.size, 0, none⟩ = false := frozen_of_row w1 _ 0 _ _ hk.1
  have f1 : w1.frozen? ⟨w.heap.size, 1, none⟩ = false := frozen_of_row w1 _ 1 _ _ hk.1
  have c1 : w1.cell? ⟨b, 1, none⟩ = some _ := cell_of_row w1 _ 1 _ _ _ hrow
  have c0 : w1.cell? ⟨b, 0, none⟩ = some _ := cell_of_row w1 _ 0 _ _ _ hrow
  clear hk hb1 hv hm hrow
  go_wp2_with fail
  refine (plain_any _ a _ HV.out).mono ?_
  rintro e w2 ⟨rfl, rfl⟩
  go_wp2_with fail
  have hs0 : ∀ x : UInt8, w1.cell? ⟨w.heap.size, 0, none⟩ ≠ some (u8v x) := fun x => by rw [q0]; simp [u8v]
  have hs1 : ∀ z, ∀ x : UInt8, (w1.setCell ⟨w.heap.size, 0, none⟩ z).cell? ⟨w.heap.size, 1, none⟩ ≠ some (u8v x) := fun z x => by rw [World.cell?_setCell_other _ _ _ _ (by simp), q1]; simp [u8v]
  refine bodyPost_ret (v := .tuple #[.agg #[.slice (some ⟨bv, ov, none⟩) a.long.length cv, .slice (some ⟨bm, om, none⟩) (a.mask free).length cm], .bool true]) (by simp [results, Try.results76, go_sem, q0, q1]) rfl ⟨_, _, rfl, ?_, ?_, ?_⟩
  · exact IPAt.set (IPAt.set HV.out hs0) (hs1 _)
  · exact IPAt.set (IPAt.set HM.out hs0) (hs1 _)
  · exact (HB.out.setCell (Nat.le_refl _) _).setCell (Nat.le_refl _) _

end Go.Proofs.Ytnehofekgnbelaa

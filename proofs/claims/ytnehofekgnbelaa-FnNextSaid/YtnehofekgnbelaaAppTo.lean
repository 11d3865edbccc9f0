/-
  netip.Addr's Is4In6, AppendTo.
-/
import Derived.Test.YtnehofekgnbelaaApp6
namespace Go.Proofs.Ytnehofekgnbelaa
open Go.RowKit
set_option linter.unusedVariables false
set_option maxRecDepth 100000
set_option maxHeartbeats 1000000

theorem is4In6_six (n : Nat) (w : World) :
    Calls Try.prog 94 #[naddr 2306139568115548160 n true] w (BelowPost w (.bool false)) := by
  have H6 := Lib.hid (fun w => is6_any 2306139568115548160 n w)
  unfold naddr at H6 ⊢
  go_enter Try.func94, Try.ntmps94
  go_wp2_with fail
  refine (H6.out _).mono ?_
  rintro e w2 ⟨rfl, hb⟩
  have hk := nz5_old' hb
  obtain ⟨c0, c1, c2, c3, c4⟩ := row5_facts hk.1
  have HB := Lib.hid hk.2
  clear hk hb
  go_wp2_with fail
  go_ret
  exact ⟨rfl, HB.out⟩

theorem appendTo_six (n : Nat) (base : Nat) (v : Value) (l : List UInt8) (w : World) (hn : n < 65536) (hB : Buf w base v l) (hb : base ≤ w.heap.size) (hl : l.length ≤ 900) :
    Calls Try.prog 75 #[naddr 2306139568115548160 n true, v] w (BufPost w base v l (preL ++ hexL n)) := by
  have hA := App.start hB hb (.cells #[.int .u64 ((2306139568115548160 : Nat) : Int), .int .u64 n, .bool true, .bool true, .string ⟨#[]⟩] 113)
  have H := Lib.hid hA
  have HI := Lib.hid (fun w => is4In6_six n w)
  have HT := Lib.hid (fun base v l w => appendTo6_any n base v l w hn)
  clear hA hB hn
  unfold naddr at HI HT ⊢
  go_enter Try.func75, Try.ntmps75
  go_wp2_with fail
  refine (z0_any _).mono ?_
  rintro e w2 ⟨rfl, hb2⟩
  have H2 := Lib.hid (H.out.on hb2)
  obtain ⟨c0, c1, c2, c3, c4⟩ := row5_facts H2.out.box
  clear hb2
  go_wp2_with fail
  refine (z4_any _).mono ?_
  rintro e w3 ⟨rfl, hb3⟩
  unfold detail
  have H3 := Lib.hid (H2.out.on hb3)
  clear c0 c1 c2 c3 c4
  obtain ⟨c0, c1, c2, c3, c4⟩ := row5_facts H3.out.box
  clear hb3
  go_wp2_with fail
  refine (HI.out _).mono ?_
  rintro e w4 ⟨rfl, hb4⟩
  have H4 := Lib.hid (H3.out.on hb4)
  clear c0 c1 c2 c3 c4
  obtain ⟨c0, c1, c2, c3, c4⟩ := row5_facts H4.out.box
  clear hb4
  go_wp2_with fail
  refine (HT.out _ _ _ _ H4.out.buf H4.out.base (by simp; omega)).mono ?_
  rintro e w5 ⟨v5, rfl, hB5, hG5⟩
  have H5 := Lib.hid (H4.out.step (m2 := preL ++ hexL n) (by simpa using hB5) hG5)
  clear c0 c1 c2 c3 c4 hB5 hG5
  go_wp2_with fail
  go_ret
  exact H5.out.post rfl

theorem appendTo_four (n : Nat) (base : Nat) (v : Value) (l : List UInt8) (w : World) (hn : n < 4294967296) (hB : Buf w base v l) (hb : base ≤ w.heap.size) (hl : l.length ≤ 900) :
    Calls Try.prog 75 #[naddr 0 (281470681743360 + n) false, v] w (BufPost w base v l (quadL n)) := by
  have HT := Lib.hid (fun base v l w => appendTo4_any n base v l w hn)
  obtain ⟨m, hm⟩ : ∃ m, m = quadL n := ⟨_, rfl⟩
  rw [← hm] at HT ⊢
  generalize 281470681743360 + n = lo at HT ⊢
  have hA := App.start hB hb (.cells #[.int .u64 ((0 : Nat) : Int), .int .u64 lo, .bool true, .bool false, .string ⟨#[]⟩] 113)
  have H := Lib.hid hA
  clear hA hB hn hm
  unfold naddr at HT ⊢
  go_enter Try.func75, Try.ntmps75
  go_wp2_with fail
  refine (z0_any _).mono ?_
  rintro e w2 ⟨rfl, hb2⟩
  have H2 := Lib.hid (H.out.on hb2)
  obtain ⟨c0, c1, c2, c3, c4⟩ := row5_facts H2.out.box
  clear hb2
  go_wp2_with fail
  refine (z4_any _).mono ?_
  rintro e w3 ⟨rfl, hb3⟩
  unfold detail
  have H3 := Lib.hid (H2.out.on hb3)
  clear c0 c1 c2 c3 c4
  obtain ⟨c0, c1, c2, c3, c4⟩ := row5_facts H3.out.box
  clear hb3
  go_wp2_with fail
  refine (HT.out _ _ _ _ H3.out.buf H3.out.base (by simp; omega)).mono ?_
  rintro e w5 ⟨v5, rfl, hB5, hG5⟩
  have H5 := Lib.hid (H3.out.step (m2 := m) (by simpa using hB5) hG5)
  clear c0 c1 c2 c3 c4 hB5 hG5
  go_wp2_with fail
  go_ret
  exact H5.out.post rfl

theorem appendTo_any (a : Ad) (base : Nat) (v : Value) (l : List UInt8) (w : World) (ok : a.ok) (hB : Buf w base v l) (hb : base ≤ w.heap.size) (hl : l.length ≤ 900) :
    Calls Try.prog 75 #[naddr a.hi a.lo a.six, v] w (BufPost w base v l a.text) := by
  obtain ⟨six, n⟩ := a
  cases six with
  | true => exact appendTo_six n base v l w (by simpa [Ad.ok] using ok) hB hb hl
  | false => exact appendTo_four n base v l w (by simpa [Ad.ok] using ok) hB hb hl

end Go.Proofs.Ytnehofekgnbelaa

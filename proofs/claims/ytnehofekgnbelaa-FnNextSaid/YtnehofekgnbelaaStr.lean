/-
  net.IP's appendTo, String: the text of an address.
-/
import Derived.Test.YtnehofekgnbelaaAppTo
import Derived.Test.YtnehofekgnbelaaFromSl
import Derived.Laws.BytesString
import Derived.Laws.OwnMore
namespace Go.Proofs.Ytnehofekgnbelaa
open Go.RowKit
set_option linter.unusedVariables false
set_option maxRecDepth 100000
set_option maxHeartbeats 1000000

theorem foldl_push (l : List UInt8) : ∀ r : ByteArray, bl (l.foldl (fun r n => r.push n) r) = bl r ++ l := by
  induction l with
  | nil => intro r; simp
  | cons x l ih => intro r; rw [List.foldl_cons, ih]; simp [bl]
theorem foldl_bytes (l : List UInt8) : ∀ r : ByteArray, bl ((l.map fun x => (x.toNat : Int)).foldl (fun r n => r.push (UInt8.ofNat n.toNat)) r) = bl r ++ l := by
  induction l with
  | nil => intro r; simp
  | cons x l ih =>
    intro r
    rw [List.map_cons, List.foldl_cons, ih]
    simp [bl]

/-- The text of a row of bytes. -/
theorem Buf.conv {w : World} {base : Nat} {v : Value} {l : List UInt8} (h : Buf w base v l) (h0 : 0 < l.length) :
    ∃ s : ByteArray, bl s = l ∧ (convert 45 9 v).run Try.prog w = .ok (.string s) w := by
  rcases h.2 with ⟨_, hn⟩ | ⟨g, cap, cur, rfl, _⟩
  · omega
  · refine ⟨(l.map fun x => (x.toNat : Int)).foldl (fun r n => r.push (UInt8.ofNat n.toNat)) ByteArray.empty, ?_, ?_⟩
    rotate_left
    · rw [run_convert_bytes_string _ 45 9 5 _ _ _ Try.underlying45 Try.underlying5 Try.underlying9]
      refine run_bytesToString _ ⟨g, 0, none⟩ l.length cap (l.map fun x => (x.toNat : Int)) ?_
      have hl := run_loadCells_list (P := Try.prog) w ⟨g, 0, none⟩ (ipv l) (fun j v hj => World.ownsRow.cells h rfl j v hj)
      rw [ipv_length] at hl
      rw [hl]
      congr 2
      simp [ipv, u8v, Function.comp_def]
    · rw [foldl_bytes]; simp [bl]

theorem ipAppendTo_any (vi vb : Value) (a : Ad) (base : Nat) (l : List UInt8) (w : World) (h : AdAt w vi a) (ok : a.ok) (hB : Buf w base vb l) (hb : base ≤ w.heap.size) (hl : l.length ≤ 900) :
    Calls Try.prog 57 #[vi, vb] w (BufPost w base vb l a.text) := by
  have HT := Lib.hid (to4_any vi a w h)
  have HP := Lib.hid (fun w base v l => appendTo_any a base v l w ok)
  have HF := Lib.hid (fun v w h => addrFromSlice_any v a w h ok)
  have HB := Lib.hid hB
  have HH := Lib.hid h
  obtain ⟨m, hm⟩ : ∃ m, m = a.text := ⟨_, rfl⟩
  rw [← hm] at HP ⊢
  clear h hB ok hm
  generalize a.hi = hi at HP HF
  generalize a.lo = lo at HP HF
  obtain ⟨six, n⟩ := a
  cases six with
  | true =>
    have hbr : BriefAt w vi ⟨true, n⟩ := HH.out.elim (fun h => h) (fun h => h)
    have ho := BriefAt.out hbr
    have HBR := Lib.hid hbr
    obtain ⟨b, off, cap, rfl, _⟩ := ho
    clear hbr
    have hw : (⟨true, n⟩ : Ad).width = 16 := rfl
    rw [hw] at HBR HT HH ⊢
    clear hw
    unfold naddr at HP HF
    go_enter Try.func57, Try.ntmps57
    go_wp2_with fail
    refine HT.out.mono ?_
    rintro e w1 ⟨v', rfl, hv, rfl⟩
    obtain rfl : v' = .slice none 0 0 := hv
    go_wp2_with fail
    refine (HF.out _ _ HBR.out).mono ?_
    rintro e w1 ⟨rfl, hb1⟩
    have HG1 := Lib.hid ((Grown.refl w vb).on hb1)
    have HB1 := Lib.hid (HB.out.keep hb1)
    have hb1' : base ≤ w1.heap.size := Nat.le_trans hb hb1.size
    clear hb1
    go_wp2_with fail
    refine (HP.out _ _ _ _ (HB1.out.alloc _) (by simp; omega) hl).mono ?_
    rintro e w2 ⟨v2, rfl, hB2, hG2⟩
    have HB2 := Lib.hid hB2
    have HG2 := Lib.hid (HG1.out.trans hG2.before)
    clear hB2 hG2
    go_wp2_with fail
    go_ret
    exact ⟨_, rfl, HB2.out, HG2.out⟩
  | false =>
    go_enter Try.func57, Try.ntmps57
    go_wp2_with fail
    refine HT.out.mono ?_
    rintro e w1 ⟨v', rfl, hv, rfl⟩
    have hbr : BriefAt w v' ⟨false, n⟩ := hv
    have ho := BriefAt.out hbr
    have HBR := Lib.hid hbr
    obtain ⟨b, off, cap, rfl, _⟩ := ho
    clear hbr hv
    have hw : (⟨false, n⟩ : Ad).width = 4 := rfl
    rw [hw] at HBR ⊢
    clear hw
    unfold naddr at HP HF
    go_wp2_with fail
    refine (HF.out _ _ HBR.out).mono ?_
    rintro e w1 ⟨rfl, hb1⟩
    have HG1 := Lib.hid ((Grown.refl w vb).on hb1)
    have HB1 := Lib.hid (HB.out.keep hb1)
    have hb1' : base ≤ w1.heap.size := Nat.le_trans hb hb1.size
    clear hb1
    go_wp2_with fail
    refine (HP.out _ _ _ _ (HB1.out.alloc _) (by simp; omega) hl).mono ?_
    rintro e w2 ⟨v2, rfl, hB2, hG2⟩
    have HB2 := Lib.hid hB2
    have HG2 := Lib.hid (HG1.out.trans hG2.before)
    clear hB2 hG2
    go_wp2_with fail
    go_ret
    exact ⟨_, rfl, HB2.out, HG2.out⟩

theorem make_buf (c : Nat) (w : World) (hc : c ≤ 1000000) :
    ∃ w', (Instr.makeSlice 45 (.int .i64 0) (.int .i64 (c : Int))).run Try.prog w = .ok (.slice (some ⟨w.heap.size, 0, none⟩) 0 c) w' ∧
      Buf w' w.heap.size (.slice (some ⟨w.heap.size, 0, none⟩) 0 c) [] ∧ Below w.heap.size w w' := by
  obtain ⟨i0, hi, hz0, hz1, hz2⟩ := info_parts infoU8
  obtain ⟨w', h1, h2, h3⟩ := run_makeSlice_owned (P := Try.prog) (w := w) w.heap.size 45 5 i0 (.int .u8 0) 1 Try.underlying45 hi hz0 hz1 .i64 .i64 c (by omega) (by rw [hz2]; omega) (by unfold maxLen; omega) (Nat.le_refl _)
  exact ⟨w', h1, h2, ⟨h3.os, h3.tape, h3.output, h3.size, fun k hk => h3.block k hk (by simp)⟩⟩

theorem decL_pos (n : Nat) : 0 < (decL n).length := by
  by_cases h : 9 < n
  · rw [decL_of h]; simp
  · rw [decL_small h]; simp
theorem text_pos (a : Ad) : 0 < a.text.length := by
  unfold Ad.text
  split
  · simp [preL]
  · unfold quadL; simp; omega

theorem ipString_any (v : Value) (a : Ad) (w : World) (h : AdAt w v a) (ok : a.ok) :
    Calls Try.prog 34 #[v] w (TextPost w a.text) := by
  have hlen : ∃ b off n cap, v = .slice (some ⟨b, off, none⟩) n cap ∧ (n = 4 ∨ n = 16) := by
    rcases h with h | h
    · obtain ⟨b, off, cap, rfl, _⟩ := IPAt.out h
      exact ⟨b, off, _, cap, rfl, .inr a.long_length⟩
    · obtain ⟨b, off, cap, rfl, _⟩ := BriefAt.out h
      refine ⟨b, off, _, cap, rfl, ?_⟩
      unfold Ad.width
      split
      · exact .inr rfl
      · exact .inl rfl
  obtain ⟨b, off, n, cap, rfl, hn⟩ := hlen
  have HA := Lib.hid h
  have HP := Lib.hid (fun vi vb base l w h => ipAppendTo_any vi vb a base l w h ok)
  have HL := Lib.hid (text_pos a)
  obtain ⟨m, hm⟩ : ∃ m, m = a.text := ⟨_, rfl⟩
  rw [← hm] at HP HL ⊢
  clear h hm ok
  rcases hn with rfl | rfl
  · obtain ⟨w1, hmk, hB, hb⟩ := make_buf 15 w (by omega)
    have hmk2 : (Instr.makeSlice 45 (.int .i64 0) (.int .i64 15)).run Try.prog w = .ok (.slice (some ⟨w.heap.size, 0, none⟩) 0 15) w1 := hmk
    clear hmk
    have HB := Lib.hid hB
    have HB1 := Lib.hid hb
    have HK := Lib.hid (HA.out.keep hb)
    clear hB hb
    go_enter Try.func34, Try.ntmps34
    go_wp2_with fail
    refine (HP.out _ _ w.heap.size [] _ HK.out HB.out HB1.out.size (by simp)).mono ?_
    rintro e w2 ⟨v2, rfl, hB2, hG2⟩
    have hc := Buf.conv hB2 (by simpa using HL.out)
    obtain ⟨s, hs, hrun⟩ := hc
    have HS := Lib.hid hs
    have HG := Lib.hid (show Below w.heap.size w w2 from HB1.out.trans (hG2.below HB.out HB1.out.size))
    have hrun2 : (convert 45 9 v2).run Try.prog w2 = .ok (.string s) w2 := hrun
    clear hB2 hG2 hs hrun
    go_wp2_with fail
    go_ret
    exact ⟨s, rfl, by simpa using HS.out, HG.out⟩
  · obtain ⟨w1, hmk, hB, hb⟩ := make_buf 39 w (by omega)
    have hmk2 : (Instr.makeSlice 45 (.int .i64 0) (.int .i64 39)).run Try.prog w = .ok (.slice (some ⟨w.heap.size, 0, none⟩) 0 39) w1 := hmk
    clear hmk
    have HB := Lib.hid hB
    have HB1 := Lib.hid hb
    have HK := Lib.hid (HA.out.keep hb)
    clear hB hb
    go_enter Try.func34, Try.ntmps34
    go_wp2_with fail
    refine (HP.out _ _ w.heap.size [] _ HK.out HB.out HB1.out.size (by simp)).mono ?_
    rintro e w2 ⟨v2, rfl, hB2, hG2⟩
    have hc := Buf.conv hB2 (by simpa using HL.out)
    obtain ⟨s, hs, hrun⟩ := hc
    have HS := Lib.hid hs
    have HG := Lib.hid (show Below w.heap.size w w2 from HB1.out.trans (hG2.below HB.out HB1.out.size))
    have hrun2 : (convert 45 9 v2).run Try.prog w2 = .ok (.string s) w2 := hrun
    clear hB2 hG2 hs hrun
    go_wp2_with fail
    go_ret
    exact ⟨s, rfl, by simpa using HS.out, HG.out⟩

end Go.Proofs.Ytnehofekgnbelaa

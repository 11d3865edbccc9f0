/-
  (*net.IPNet).String: the text of a net.
-/
import Derived.Test.YtnehofekgnbelaaGreatDoorM18
import Derived.Test.YtnehofekgnbelaaGreatDoorM19
import Derived.Test.YtnehofekgnbelaaGreatDoorM9
import Derived.Test.YtnehofekgnbelaaGreatDoorM13
import Derived.Test.YtnehofekgnbelaaGreatDoorTextP
import Derived.Test.YtnehofekgnbelaaGreatDoorShelfI
namespace Go.Proofs.YtnehofekgnbelaaGreatDoor
open Go.RowKit
set_option linter.unusedVariables false
set_option maxRecDepth 100000
set_option maxHeartbeats 1000000

theorem decDigits_decL (n : Nat) : Lib.decDigits n = decL n := by
  induction n using Nat.strongRecOn with
  | ind n ih =>
    unfold Lib.decDigits
    by_cases h : n < 10
    · rw [dif_pos h, decL_small (by omega)]
      congr 2
      omega
    · rw [dif_neg h, decL_of (by omega), ih (n / 10) (by omega)]
theorem itoa_decL (n : Nat) : Lib.itoa (n : Int) = decL n := by
  unfold Lib.itoa
  rw [if_neg (by omega), Int.toNat_natCast, decDigits_decL]
theorem bs_of {s : ByteArray} {l : List UInt8} (h : bl s = l) : s = ⟨l.toArray⟩ := by
  subst h
  simp [bl]
theorem text_fix {w w' : World} {l : List UInt8} {e : Ending} (h : TextPost w l e w') : e = .returned (.string ⟨l.toArray⟩) ∧ Below w.heap.size w w' := by
  obtain ⟨s, rfl, hs, hb⟩ := h
  rw [bs_of hs]
  exact ⟨rfl, hb⟩
theorem text_length {a : Ad} (ok : a.ok) : a.text.length ≤ 15 := by
  unfold Ad.ok at ok
  unfold Ad.text
  cases h : a.six with
  | true =>
    rw [h] at ok
    simp only [if_true] at ok ⊢
    have := hexL_length 4 a.n (by omega)
    rw [List.length_append, show preL.length = 10 from rfl]
    omega
  | false =>
    rw [h] at ok
    simp only [Bool.false_eq_true, if_false] at ok ⊢
    have h1 := decL_length 2 (a.n / 16777216) (by omega)
    have h2 := decL_length 2 (a.n / 65536 % 256) (by omega)
    have h3 := decL_length 2 (a.n / 256 % 256) (by omega)
    have h4 := decL_length 2 (a.n % 256) (by omega)
    unfold quadL
    simp only [List.length_append, List.length_cons]
    omega

/-- The table of powers of ten. -/
def Tab (w : World) : Prop := Lib.TabIs Tryz.prog w tabName .u64 Lib.pow10Tab
theorem Tab.on {w w' : World} (h : Tab w) (hb : Below w.heap.size w w') : Tab w' := by
  unfold Tab Lib.TabIs World.var? at *
  cases hg : Tryz.prog.globalNamed tabName with
  | none => simp [hg] at h
  | some g =>
    simp only [hg, Option.bind_some] at h ⊢
    have hlt : g < w.heap.size := by
      rcases Nat.lt_or_ge g w.heap.size with h' | h'
      · exact h'
      · rw [Array.getElem?_eq_none h'] at h; simp at h
    rw [hb.block g hlt]
    exact h
theorem below_grow (w : World) (q : Nat) (os : Array Obj) : Below w.heap.size w (Sort.grow (w.drewN q) os) :=
  ⟨rfl, rfl, rfl, by simp [Sort.grow], fun i hi => by
    show ((w.drewN q).heap ++ os)[i]? = _
    rw [Array.getElem?_append_left (by show i < w.heap.size; omega)]
    rfl⟩
theorem itoa_any (n : Nat) (w : World) (hn : n ≤ 1000) (ht : Tab w) : Calls Tryz.prog 56 #[.int .i64 n] w (TextPost w (decL n)) := by
  refine (Tryz.strconv_Itoa n (by omega) (by omega) w ht).mono ?_
  rintro e w' ⟨rfl, k, os, rfl⟩
  refine ⟨_, rfl, ?_, below_grow _ _ _⟩
  simp [bl, itoa_decL]

/-- A net's text. -/
def netL (a : Ad) (free : Nat) : List UInt8 := a.text ++ 47 :: decL (8 * a.width - free)
theorem net_text {l : List UInt8} {a : Ad} {free : Nat} {m : Int} (h : NetOf l a free) (hn : numOK m (cutL 47 l).2.1 = true) : l = netL a free := by
  have h1 := cutL_split 47 l h.more
  have h2 := read_text h.ad
  have h3 := num_text hn
  rw [h.val, Int.toNat_natCast] at h3
  rw [h2, h3] at h1
  exact h1
theorem netString_any (B : Nat) (vi vm : Value) (a : Ad) (free : Nat) (w : World) (h0 : w.cell? ⟨B, 0, none⟩ = some vi) (h1 : w.cell? ⟨B, 1, none⟩ = some vm) (hi : BriefAt w vi a) (hm : IPAt w vm (a.mask free)) (ok : a.ok) (hf : free ≤ a.room) (ht : Tab w) :
    Calls Tryz.prog 29 #[.pointer (some ⟨B, 0, none⟩)] w (TextPost w (netL a free)) := by
  have hnil := fun w a n c => Lib.run_eql_slice_nil (P := Tryz.prog) w 67 5 a n c 0 0 Tryz.underlying67
  have hnil2 := fun w a n c => Lib.run_eql_slice_nil (P := Tryz.prog) w 68 5 a n c 0 0 Tryz.underlying68
  have HN := Lib.hid (nnm_any B vi vm a free w h0 h1 hi hm)
  obtain ⟨hr1, hr2⟩ := room_le a
  obtain ⟨b, o, cap, rfl, lb, g1, g2, gc⟩ := IPAt.out hm
  rw [Ad.mask_length] at g1 gc h1 HN
  have HM := Lib.hid (maskLength_any b o cap a.width (8 * a.width - free) w (width_cases a).2 (by omega) g1 g2 (fun i hi => by
    rw [gc i hi]
    unfold Ad.mask
    rw [maskL_getD _ _ _ hi]))
  have HT := Lib.hid (fun w (t : Tab w) => itoa_any (8 * a.width - free) w (by omega) t)
  have HTAB := Lib.hid ht
  have HS := Lib.hid (fun v (h : BriefAt w v a) => ipString_any v a w (.inr h) ok)
  have hlen := text_length ok
  have hnum : 8 * a.width - free ≤ 128 := by omega
  have HLN := Lib.hid (show netL a free = a.text ++ 47 :: decL (8 * a.width - free) from rfl)
  generalize netL a free = L at HLN ⊢
  have hdl := decL_length 2 (8 * a.width - free) (by omega)
  generalize 8 * a.width - free = k at HM HT HLN hnum hdl
  generalize a.text = tx at HS HLN hlen
  have t1 : ((k : Int) == -1) = false := by rw [beq_eq_false_iff_ne]; omega
  have HDL := Lib.hid hdl
  have HLEN := Lib.hid hlen
  clear h0 h1 hi hm ok hf ht hr1 hr2 gc hdl hlen
  go_enter Tryz.func29, Tryz.ntmps29
  go_wp2_with fail
  refine HN.out.mono ?_
  rintro e w' ⟨vn, rfl, hvn, rfl⟩
  have HV := Lib.hid hvn
  obtain ⟨bn, on, cn, rfl, _⟩ := BriefAt.out hvn
  clear hvn HN
  go_wp2_with fail
  refine HM.out.mono ?_
  rintro e w' ⟨rfl, rfl⟩
  go_wp2_with fail
  refine (HS.out _ HV.out).mono ?_
  rintro e w1 ⟨s1, rfl, hs1, hb1⟩
  have z1 : s1.size ≤ 15 := by rw [← bl_length, hs1]; exact HLEN.out
  have HS1 := Lib.hid hs1
  have HB1 := Lib.hid hb1
  clear hs1 hb1
  go_wp2_with fail
  refine (HT.out _ (HTAB.out.on HB1.out)).mono ?_
  rintro e w2 ⟨s2, rfl, hs2, hb2⟩
  have z2 : s2.size ≤ 3 := by rw [← bl_length, hs2]; exact HDL.out
  have HS2 := Lib.hid hs2
  have HB2 := Lib.hid (below_tr HB1.out hb2)
  clear hs2 hb2
  go_wp2_with fail
  go_ret
  refine ⟨_, rfl, ?_, HB2.out⟩
  rw [HLN.out]
  simp only [bl_add, HS1.out, HS2.out]
  simp [bl]

end Go.Proofs.YtnehofekgnbelaaGreatDoor

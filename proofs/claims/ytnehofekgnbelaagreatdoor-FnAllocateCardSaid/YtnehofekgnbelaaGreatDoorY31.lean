/-
  Texts put together: TextP, She
-/
import Derived.Test.YtnehofekgnbelaaGreatDoorM11
import Derived.Test.YtnehofekgnbelaaGreatDoorM9
import Derived.Test.YtnehofekgnbelaaGreatDoorM7
import Derived.Test.YtnehofekgnbelaaGreatDoorM6
import Derived.Shelf.Strconv.Itoa3
import Derived.Test.YtnehofekgnbelaaGreatDoorProg
import Derived.Test.YtnehofekgnbelaaGreatDoorRows
import Derived.Test.YtnehofekgnbelaaGreatDoorM18
import Derived.Test.YtnehofekgnbelaaGreatDoorM19
import Derived.Test.YtnehofekgnbelaaGreatDoorM13
import Derived.Stop.LaidErr
namespace Go.Proofs.YtnehofekgnbelaaGreatDoor
open Go.RowKit
set_option linter.unusedVariables false
end Go.Proofs.YtnehofekgnbelaaGreatDoor
namespace Go.Proofs
open Go.Shelf
def YtnehofekgnbelaaGreatDoor.tabName : String := (YtnehofekgnbelaaGreatDoor.Rows.fnCanonicalRow.laid.map Prod.fst).getD 2 ""
def Tryz.laysM171_ren : Go.Shelf.Ren := ⟨fun | 171 => 56 | 243 => 87 | 246 => 128 | 283 => 158 | 284 => 159 | 285 => 160 | 286 => 161 | 129 => 117 | 317 => 176 | 318 => 177 | 319 => 178 | 320 => 179 | 337 => 185 | 338 => 186 | n => n, fun | 3 => 3 | 9 => 9 | 2 => 2 | 4 => 4 | 171 => 244 | 0 => 0 | 53 => 154 | 37 => 43 | 5 => 5 | 173 => 246 | 212 => 264 | 51 => 54 | 20 => 20 | 213 => 265 | 46 => 112 | 232 => 273 | 233 => 274 | n => n, fun | 17 => 1 | 18 => 2 | 19 => 3 | n => n⟩
theorem Tryz.laysM171 : Go.Proofs.LaysM.n171 Tryz.prog Tryz.laysM171_ren := {
 mixed := by kernel_rfl
 f129 := Tryz.func117.trans (congrArg some (by kernel_rfl))
 f171 := Tryz.func56.trans (congrArg some (by kernel_rfl))
 f243 := Tryz.func87.trans (congrArg some (by kernel_rfl))
 f246 := Tryz.func128.trans (congrArg some (by kernel_rfl))
 f283 := Tryz.func158.trans (congrArg some (by kernel_rfl))
 f284 := Tryz.func159.trans (congrArg some (by kernel_rfl))
 f285 := Tryz.func160.trans (congrArg some (by kernel_rfl))
 f286 := Tryz.func161.trans (congrArg some (by kernel_rfl))
 f317 := Tryz.func176.trans (congrArg some (by kernel_rfl))
 f318 := Tryz.func177.trans (congrArg some (by kernel_rfl))
 f319 := Tryz.func178.trans (congrArg some (by kernel_rfl))
 f320 := Tryz.func179.trans (congrArg some (by kernel_rfl))
 f337 := Tryz.func185.trans (congrArg some (by kernel_rfl))
 f338 := Tryz.func186.trans (congrArg some (by kernel_rfl))
 t0 := Tryz.underlying0
 a0 := Tryz.isAgg0
 z0 := Tryz.sizeOf0
 v0 := Tryz.zeroValue0
 t2 := Tryz.underlying2
 a2 := Tryz.isAgg2
 z2 := Tryz.sizeOf2
 v2 := Tryz.zeroValue2
 t3 := Tryz.underlying3
 a3 := Tryz.isAgg3
 z3 := Tryz.sizeOf3
 v3 := Tryz.zeroValue3
 t4 := Tryz.underlying4
 a4 := Tryz.isAgg4
 z4 := Tryz.sizeOf4
 v4 := Tryz.zeroValue4
 t5 := Tryz.underlying5
 a5 := Tryz.isAgg5
 z5 := Tryz.sizeOf5
 v5 := Tryz.zeroValue5
 t9 := Tryz.underlying9
 a9 := Tryz.isAgg9
 z9 := Tryz.sizeOf9
 v9 := Tryz.zeroValue9
 t20 := Tryz.underlying20
 a20 := Tryz.isAgg20
 z20 := Tryz.sizeOf20
 v20 := Tryz.zeroValue20
 t37 := Tryz.underlying43
 a37 := Tryz.isAgg43
 z37 := Tryz.sizeOf43
 v37 := Tryz.zeroValue43
 t46 := Tryz.underlying112
 a46 := Tryz.isAgg112
 z46 := Tryz.sizeOf112
 v46 := Tryz.zeroValue112
 t51 := Tryz.underlying54
 a51 := Tryz.isAgg54
 z51 := Tryz.sizeOf54
 v51 := Tryz.zeroValue54
 t53 := Tryz.underlying154
 a53 := Tryz.isAgg154
 z53 := Tryz.sizeOf154
 v53 := Tryz.zeroValue154
 t171 := Tryz.underlying244
 a171 := Tryz.isAgg244
 z171 := Tryz.sizeOf244
 v171 := Tryz.zeroValue244
 t173 := Tryz.underlying246
 a173 := Tryz.isAgg246
 z173 := Tryz.sizeOf246
 v173 := Tryz.zeroValue246
 t212 := Tryz.underlying264
 a212 := Tryz.isAgg264
 z212 := Tryz.sizeOf264
 v212 := Tryz.zeroValue264
 t213 := Tryz.underlying265
 a213 := Tryz.isAgg265
 z213 := Tryz.sizeOf265
 t232 := Tryz.underlying273
 a232 := Tryz.isAgg273
 z232 := Tryz.sizeOf273
 v232 := Tryz.zeroValue273
 t233 := Tryz.underlying274
 a233 := Tryz.isAgg274
 z233 := Tryz.sizeOf274
 v233 := Tryz.zeroValue274
 g17 := by kernel_rfl
 g18 := by kernel_rfl
 g19 := by kernel_rfl
 i0 := by kernel_rfl
 i2 := by kernel_rfl
 i3 := by kernel_rfl
 i4 := by kernel_rfl
 i5 := by kernel_rfl
 i9 := by kernel_rfl
 i20 := by kernel_rfl
 i37 := by kernel_rfl
 i46 := by kernel_rfl
 i51 := by kernel_rfl
 i53 := by kernel_rfl
 i171 := by kernel_rfl
 i173 := by kernel_rfl
 i212 := by kernel_rfl
 i232 := by kernel_rfl
 i233 := by kernel_rfl
 m17 := by kernel_rfl
 m18 := by kernel_rfl
 m19 := by kernel_rfl }
open Go.RowKit Go.Sort Go.Lib in
theorem Tryz.strconv_Itoa (n : Int) (h0 : -9223372036854775808 ≤ n) (h1 : n ≤ 9223372036854775807) (w : World) (htab : Lib.TabIs Tryz.prog w YtnehofekgnbelaaGreatDoor.tabName .u64 Lib.pow10Tab) :
  Calls Tryz.prog 56 #[.int .i64 n] w fun e w' => e = .returned (.string ⟨(Lib.itoa n).toArray⟩) ∧ ∃ k os, w' = grow (w.drewN k) os := Any.strconv_Itoa Tryz.laysM171 n h0 h1 w htab
end Go.Proofs
namespace Go.Proofs.YtnehofekgnbelaaGreatDoor
open Go.RowKit
set_option linter.unusedVariables false
set_option maxRecDepth 100000
set_option maxHeartbeats 1000000
theorem zbZ (n : Nat) : Lib.decDigits n = decL n := by
 induction n using Nat.strongRecOn with
 | ind n ih =>
  unfold Lib.decDigits
  by_cases h : n < 10
  ·rw [dif_pos h, decL_small (by omega)]
   congr 2
   omega
  ·rw [dif_neg h, decL_of (by omega), ih (n / 10) (by omega)]
theorem zhK (n : Nat) : Lib.itoa (n : Int) = decL n := by
 unfold Lib.itoa
 rw [if_neg (by omega), Int.toNat_natCast, zbZ]
theorem bs_of {s : ByteArray} {l : List UInt8} (h : bl s = l) : s = ⟨l.toArray⟩ := by
 subst h
 simp [bl]
theorem zX {w w' : World} {l : List UInt8} {e : Ending} (h : TextPost w l e w') : e = .returned (.string ⟨l.toArray⟩) ∧ Below w.heap.size w w' := by
 obtain ⟨s, rfl, hs, hb⟩ := h
 rw [bs_of hs]
 exact ⟨rfl, hb⟩
theorem zY {a : Ad} (ok : a.ok) : a.text.length ≤ 15 := by
 unfold Ad.ok at ok
 unfold Ad.text
 cases h : a.six with
 | true =>
  rw [h] at ok
  simp only [if_true] at ok ⊢
  have := hexL_length 4 a.n (by omega)
  rw [List.length_append, show preL.length = 10 from rfl]
  omega
 | false =>
  rw [h] at ok
  simp only [Bool.false_eq_true, if_false] at ok ⊢
  have h1 := decL_length 2 (a.n / 16777216) (by omega)
  have h2 := decL_length 2 (a.n / 65536 % 256) (by omega)
  have h3 := decL_length 2 (a.n / 256 % 256) (by omega)
  have h4 := decL_length 2 (a.n % 256) (by omega)
  unfold quadL
  simp only [List.length_append, List.length_cons]
  omega
def Tab (w : World) : Prop := Lib.TabIs Tryz.prog w tabName .u64 Lib.pow10Tab
theorem Tab.on {w w' : World} (h : Tab w) (hb : Below w.heap.size w w') : Tab w' := by
 unfold Tab Lib.TabIs World.var? at *
 cases hg : Tryz.prog.globalNamed tabName with
 | none => simp [hg] at h
 | some g =>
  simp only [hg, Option.bind_some] at h ⊢
  have hlt : g < w.heap.size := by
   rcases Nat.lt_or_ge g w.heap.size with h' | h'
   ·exact h'
   ·rw [Array.getElem?_eq_none h'] at h; simp at h
  rw [hb.block g hlt]
  exact h
theorem zfW (w : World) (q : Nat) (os : Array Obj) : Below w.heap.size w (Sort.grow (w.drewN q) os) :=
 ⟨rfl, rfl, rfl, by simp [Sort.grow], fun i hi => by
  show ((w.drewN q).heap ++ os)[i]? = _
  rw [Array.getElem?_append_left (by show i < w.heap.size; omega)]
  rfl⟩
theorem zfG (n : Nat) (w : World) (hn : n ≤ 1000) (ht : Tab w) : Calls Tryz.prog 56 #[.int .i64 n] w (TextPost w (decL n)) := by
 refine (Tryz.strconv_Itoa n (by omega) (by omega) w ht).mono ?_
 rintro e w' ⟨rfl, k, os, rfl⟩
 refine ⟨_, rfl, ?_, zfW _ _ _⟩
 simp [bl, zhK]
def netL (a : Ad) (free : Nat) : List UInt8 := a.text ++ 47 :: decL (8 * a.width - free)
theorem zjQ (B : Nat) (vi vm : Value) (a : Ad) (free : Nat) (w : World) (h0 : w.cell? ⟨B, 0, none⟩ = some vi) (h1 : w.cell? ⟨B, 1, none⟩ = some vm) (hi : AdAt w vi a) (hm : IPAt w vm (a.mask free)) :
  Calls Tryz.prog 53 #[.pointer (some ⟨B, 0, none⟩)] w (NnmPost w a vm) := by
 have hnil := fun w a n c => Lib.run_eql_slice_nil (P := Tryz.prog) w 67 5 a n c 0 0 Tryz.underlying67
 obtain ⟨six, n⟩ := a
 cases six with
 | true => exact nnm_any B vi vm _ free w h0 h1 (hi.elim (fun h => h) (fun h => h)) hm
 | false =>
  have HT := Lib.hid (to4_any vi _ w hi)
  obtain ⟨b, o, na, cap, rfl⟩ := hi.slice
  obtain ⟨m, mo, mcap, rfl, _⟩ := IPAt.out hm
  rw [Ad.mask_length] at h1 ⊢
  clear hi hm
  have hw : (⟨false, n⟩ : Ad).width = 4 := rfl
  rw [hw] at h1 ⊢
  clear hw
  go_enter Tryz.func53, Tryz.ntmps53
  go_wp2_with fail
  refine HT.out.mono ?_
  rintro e w' ⟨v', rfl, hv, rfl⟩
  have hv2 : BriefAt w v' ⟨false, n⟩ := hv
  have HV := Lib.hid hv2
  obtain ⟨b3, o3, cap3, rfl, _⟩ := BriefAt.out hv2
  have hw : (⟨false, n⟩ : Ad).width = 4 := rfl
  rw [hw] at HV ⊢
  clear hv hv2 hw
  go_wp2_with fail
  go_ret2
  exact ⟨_, rfl, HV.out, rfl⟩
theorem xK (B : Nat) (vi vm : Value) (a : Ad) (free : Nat) (w : World) (h0 : w.cell? ⟨B, 0, none⟩ = some vi) (h1 : w.cell? ⟨B, 1, none⟩ = some vm) (hi : AdAt w vi a) (hm : IPAt w vm (a.mask free)) (ok : a.ok) (hf : free ≤ a.room) (ht : Tab w) :
  Calls Tryz.prog 29 #[.pointer (some ⟨B, 0, none⟩)] w (TextPost w (netL a free)) := by
 have hnil := fun w a n c => Lib.run_eql_slice_nil (P := Tryz.prog) w 67 5 a n c 0 0 Tryz.underlying67
 have hnil2 := fun w a n c => Lib.run_eql_slice_nil (P := Tryz.prog) w 68 5 a n c 0 0 Tryz.underlying68
 have HN := Lib.hid (zjQ B vi vm a free w h0 h1 hi hm)
 obtain ⟨hr1, hr2⟩ := room_le a
 obtain ⟨b, o, cap, rfl, lb, g1, g2, gc⟩ := IPAt.out hm
 rw [Ad.mask_length] at g1 gc h1 HN
 have HM := Lib.hid (maskLength_any b o cap a.width (8 * a.width - free) w (width_cases a).2 (by omega) g1 g2 (fun i hi => by
  rw [gc i hi]
  unfold Ad.mask
  rw [maskL_getD _ _ _ hi]))
 have HT := Lib.hid (fun w (t : Tab w) => zfG (8 * a.width - free) w (by omega) t)
 have HTAB := Lib.hid ht
 have HS := Lib.hid (fun v (h : BriefAt w v a) => ipString_any v a w (.inr h) ok)
 have hlen := zY ok
 have hnum : 8 * a.width - free ≤ 128 := by omega
 have HLN := Lib.hid (show netL a free = a.text ++ 47 :: decL (8 * a.width - free) from rfl)
 generalize netL a free = L at HLN ⊢
 have hdl := decL_length 2 (8 * a.width - free) (by omega)
 generalize 8 * a.width - free = k at HM HT HLN hnum hdl
 generalize a.text = tx at HS HLN hlen
 have t1 : ((k : Int) == -1) = false := by rw [beq_eq_false_iff_ne]; omega
 have HDL := Lib.hid hdl
 have HLEN := Lib.hid hlen
 clear h0 h1 hi hm ok hf ht hr1 hr2 gc hdl hlen
 go_enter Tryz.func29, Tryz.ntmps29
 go_wp2_with fail
 refine HN.out.mono ?_
 rintro e w' ⟨vn, rfl, hvn, rfl⟩
 have HV := Lib.hid hvn
 obtain ⟨bn, on, cn, rfl, _⟩ := BriefAt.out hvn
 clear hvn HN
 go_wp2_with fail
 refine HM.out.mono ?_
 rintro e w' ⟨rfl, rfl⟩
 go_wp2_with fail
 refine (HS.out _ HV.out).mono ?_
 rintro e w1 ⟨s1, rfl, hs1, hb1⟩
 have z1 : s1.size ≤ 15 := by rw [← bl_length, hs1]; exact HLEN.out
 have HS1 := Lib.hid hs1
 have HB1 := Lib.hid hb1
 clear hs1 hb1
 go_wp2_with fail
 refine (HT.out _ (HTAB.out.on HB1.out)).mono ?_
 rintro e w2 ⟨s2, rfl, hs2, hb2⟩
 have z2 : s2.size ≤ 3 := by rw [← bl_length, hs2]; exact HDL.out
 have HS2 := Lib.hid hs2
 have HB2 := Lib.hid (below_tr HB1.out hb2)
 clear hs2 hb2
 go_wp2_with fail
 go_ret
 refine ⟨_, rfl, ?_, HB2.out⟩
 rw [HLN.out]
 simp only [bl_add, HS1.out, HS2.out]
 simp [bl]
theorem zeM {W : World} {rest : List (String × DataW Unit)} {x y : String × DataW Unit} (h : laidMet Tryz.prog (x :: y :: (tabName, Rows.laid_internal_strconv_uint64pow10) :: rest) W) : Tab W :=
 Lib.tabIs_of_head (g := 1) (t := 264) (e := 154) (n := 20) (by kernel_rfl) (by kernel_rfl) (by kernel_rfl) (by kernel_rfl) (by kernel_rfl) (by kernel_rfl) (laidMet.tail (laidMet.tail h))
end Go.Proofs.YtnehofekgnbelaaGreatDoor

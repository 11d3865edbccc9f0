/-
  Texts put together: Read, Read4, IsAd.
-/
import Derived.Test.YtnehofekgnbelaaGreatDoorM5
import Derived.Lib.ConvBytes
import Derived.StillTailTactics

/-
  The reference: the address of a text.
-/
namespace Go.Proofs.YtnehofekgnbelaaGreatDoor
open Go.RowKit
set_option linter.unusedVariables false
set_option maxRecDepth 100000
set_option maxHeartbeats 1000000

/-- '[]byte(s)': a new row that holds the bytes. -/
theorem conv_bytes {P : Program} (w : World) (src dst e : TypeId) (s : ByteArray) (hs : P.underlying src = some .string) (hd : P.underlying dst = some (.slice e)) (he : P.underlying e = some (.int .u8)) :
    ∃ w' cap, (convert src dst (.string s)).run P w = .ok (.slice (some ⟨w.heap.size, 0, none⟩) s.size cap) w' ∧ Below w.heap.size w w' ∧ w'.heap.size = w.heap.size + 1 ∧
      ∀ j (h : j < s.size), w'.cell? ⟨w.heap.size, j, none⟩ = some (.int .u8 s[j].toNat) := by
  refine ⟨Lib.bytesWorld w e s, _, Lib.run_convert_string_bytes w src dst e s hs hd he, ⟨?_, ?_, ?_, ?_, ?_⟩, Lib.bytesWorld_size w e s, fun j h => ?_⟩
  · simp [Lib.bytesWorld, World.freeze]; rfl
  · simp [Lib.bytesWorld, World.freeze]
  · simp [Lib.bytesWorld, World.freeze]; rfl
  · rw [Lib.bytesWorld_size]; omega
  · exact fun k hk => Lib.bytesWorld_at_old w e s k hk
  · rw [Lib.bytesWorld_cell w e s j h]
    have : s.data.toList.getD j 0 = s[j] := by
      rw [List.getD_eq_getElem?_getD, List.getElem?_eq_getElem (by simpa using h)]
      rfl
    rw [this]

/-- The address that a text may be: of sixteens' digits behind 2001:db8::, or of four parts; where it is none, any. -/
def hexVal (b : UInt8) : Option Nat := if 48 ≤ b.toNat ∧ b.toNat ≤ 57 then some (b.toNat - 48) else if 97 ≤ b.toNat ∧ b.toNat ≤ 102 then some (b.toNat - 87) else none
def hexN : List UInt8 → Nat → Option Nat
  | [], n => some n
  | b :: r, n => match hexVal b with
    | some d => hexN r ((n * 16 + d) % 4294967296)
    | none => none
/-- Four numbers of at most 255, three points between. -/
def quadN (k : Nat) (l : List UInt8) (n : Nat) : Option Nat :=
  if numOK 255 (cutL 46 l).1 = true ∧ (cutL 46 l).2.2 = decide (0 < k) then
    match k with
    | 0 => some ((n * 256 + (numV 255 (cutL 46 l).1).toNat) % 4294967296)
    | k + 1 => quadN k (cutL 46 l).2.1 ((n * 256 + (numV 255 (cutL 46 l).1).toNat) % 4294967296)
  else none
/-- Is it of sixteen? -/
def isSix (l : List UInt8) : Bool := decide (l.take 10 = preL)
def readL (l : List UInt8) : Option Ad :=
  if isSix l then (hexN (l.drop 10) 0).bind fun n => if l.length ≤ 14 ∧ preL ++ hexL n = l then some ⟨true, n⟩ else none
  else (quadN 3 l 0).map fun n => ⟨false, n⟩

/-- What read tells: the address of the text; or no address, and anything beside it. -/
def ReadPost (w : World) (l : List UInt8) (e : Ending) (w' : World) : Prop :=
  ∃ (a : Ad) (ok : Bool), e = .returned (.tuple #[adv a, .bool ok]) ∧ (if ok then readL l = some a else readL l = none) ∧ a.n < 4294967296 ∧ Below w.heap.size w w'

/-- The world within: the result's block, the address's one, the bytes' row. -/
structure RdRel (w : World) (six : Bool) (n : Nat) (bs : List UInt8) (wr : World) : Prop where
  res : wr.heap[w.heap.size]? = some (.cells #[.bool false, .int .u32 0] 56 (0, 0))
  own : wr.heap[w.heap.size + 1]? = some (.cells #[.bool six, .int .u32 n] 56 (0, 0))
  row : ∀ j, j < bs.length → wr.cell? ⟨w.heap.size + 2, j, none⟩ = some (.int .u8 (bs.getD j 0).toNat)
  below : Below w.heap.size w wr

theorem RdRel.store {w wr : World} {six : Bool} {n : Nat} {bs : List UInt8} (h : RdRel w six n bs wr) (m : Nat) : RdRel w six m bs (wr.setCell ⟨w.heap.size + 1, 1, none⟩ (.int .u32 m)) := by
  refine ⟨?_, ?_, fun j hj => ?_, h.below.setCell (by simp) _⟩
  · rw [Below.heap_setCell _ _ _ _ (by simp)]
    exact h.res
  · have := heap_setCell_same wr (w.heap.size + 1) 1 #[.bool six, .int .u32 n] 56 (.int .u32 m) h.own
    rw [this]
    rfl
  · rw [World.cell?_setCell_other _ _ _ _ (by simp)]
    exact h.row j hj

theorem rd_held {w wr w2 : World} {six : Bool} {n : Nat} {bs : List UInt8} (h : RdRel w six n bs wr) (hb : Below wr.drew.heap.size wr.drew w2) : RdRel w six n bs w2 := by
  have hb : Below wr.heap.size wr w2 := below_tr (below_drewN (Below.refl _ _) 1) hb
  have hl : ∀ k o, wr.heap[k]? = some o → w2.heap[k]? = some o := fun k o ho => by
    rw [hb.block k (by have := (Array.getElem?_eq_some_iff.1 ho).1; exact this)]; exact ho
  exact ⟨hl _ _ h.res, hl _ _ h.own, fun j hj => (hb.cell (World.block_lt_of_cell? wr _ (h.row j hj))).trans (h.row j hj), below_tr h.below hb⟩
section
variable {w wr : World} {six : Bool} {n : Nat} {bs : List UInt8} (h : RdRel w six n bs wr)
include h
theorem rd_r0 : wr.cell? ⟨w.heap.size, 0, none⟩ = some (.bool false) := cell_of_row wr _ 0 _ _ _ h.res
theorem rd_r1 : wr.cell? ⟨w.heap.size, 1, none⟩ = some (.int .u32 0) := cell_of_row wr _ 1 _ _ _ h.res
theorem rd_g0 : wr.frozen? ⟨w.heap.size, 0, none⟩ = false := frozen_of_row wr _ 0 _ _ h.res
theorem rd_g1 : wr.frozen? ⟨w.heap.size, 1, none⟩ = false := frozen_of_row wr _ 1 _ _ h.res
theorem rd_s : wr.cell? ⟨w.heap.size + 1, 0, none⟩ = some (.bool six) ∧ wr.cell? ⟨w.heap.size + 1, 1, none⟩ = some (.int .u32 n) := ⟨cell_of_row wr _ 0 _ _ _ h.own, cell_of_row wr _ 1 _ _ _ h.own⟩
end
theorem readL_bad {l : List UInt8} (h6 : isSix l = true) (h : hexN (l.drop 10) 0 = none) : readL l = none := by
  unfold readL
  rw [if_pos h6, h]
  rfl
theorem readL_six {l : List UInt8} {n : Nat} (h6 : isSix l = true) (h : hexN (l.drop 10) 0 = some n) : readL l = if l.length ≤ 14 ∧ preL ++ hexL n = l then some ⟨true, n⟩ else none := by
  unfold readL
  rw [if_pos h6, h]
  rfl
theorem six_end {s t : ByteArray} {bs : List UInt8} {n : Nat} {w w' : World} (h6 : isSix (bl s) = true) (hbs : (bl s).drop 10 = bs) (h : hexN bs 0 = some n) (ht : bl t = preL ++ hexL n) (h14 : s.size ≤ 14) (hn : n < 4294967296) (hb : Below w.heap.size w w') :
    ReadPost w (bl s) (.returned (.tuple #[adv ⟨true, n⟩, .bool (t.toList == s.toList)])) w' := by
  refine ⟨⟨true, n⟩, _, rfl, ?_, hn, hb⟩
  rw [readL_six h6 (by rw [hbs]; exact h), Lib.toList_data, Lib.toList_data]
  show if (bl t == bl s) = true then _ else _
  rw [ht, bl_length]
  by_cases he : preL ++ hexL n = bl s
  · rw [if_pos (by rw [beq_iff_eq]; exact he), if_pos ⟨h14, he⟩]
  · rw [if_neg (by rw [beq_iff_eq]; exact he), if_neg (fun h => he h.2)]
theorem hexN_step (bs : List UInt8) (k n : Nat) (h : k < bs.length) : hexN (bs.drop k) n = match hexVal (bs.getD k 0) with
    | some d => hexN (bs.drop (k + 1)) ((n * 16 + d) % 4294967296)
    | none => none := by
  rw [List.drop_eq_getElem_cons h, List.getD_eq_getElem?_getD, List.getElem?_eq_getElem h]
  rfl

theorem read_six (s : ByteArray) (w : World) (h6 : isSix (bl s) = true) (hs : s.size ≤ 2147483647) :
    Calls Tryz.prog 23 #[.string s] w (ReadPost w (bl s)) := by
  have hsz : 10 ≤ s.size := by
    have := congrArg List.length (of_decide_eq_true h6)
    rw [List.length_take, bl_length] at this
    simp [preL] at this
    omega
  have t1 : decide ((10 : Int) ≤ s.size) = true := decide_eq_true (by omega)
  have t2 : ((s.extract 0 10).toList == [50, 48, 48, 49, 58, 100, 98, 56, 58, 58]) = true := by
    rw [beq_iff_eq, Lib.toList_data]
    have e := of_decide_eq_true h6
    have e2 := Lib.extract_data s 0 10
    rw [e2]
    exact e
  obtain ⟨w1, cap, hrun, hb1, hz, hcells⟩ := conv_bytes (P := Tryz.prog) ((w.alloc (.cells #[.bool false, .int .u32 0] 56)).alloc (.cells #[.bool true, .int .u32 0] 56)) 9 43 5 (s.extract 10 s.size) Tryz.underlying9 Tryz.underlying43 Tryz.underlying5
  generalize hbs : bl (s.extract 10 s.size) = bs
  have hlen : (s.extract 10 s.size).size = bs.length := by rw [← hbs, bl_length]
  have hbl : bs.length ≤ 2147483647 := by
    rw [← hlen, ByteArray.size_extract]
    omega
  have hbs2 : (bl s).drop 10 = bs := by
    rw [← hbs]
    exact (Lib.extract_to_end s 10).symm
  have hr0 : RdRel w true 0 bs w1 := by
    have h2 : w1.heap[w.heap.size]? = _ := hb1.block w.heap.size (by simp; omega)
    have h3 : w1.heap[w.heap.size + 1]? = _ := hb1.block (w.heap.size + 1) (by simp)
    refine ⟨?_, ?_, fun j hj => ?_, below_tr (((Below.refl w.heap.size w).alloc (Nat.le_refl _) _).alloc (by simp) _) hb1⟩
    · rw [h2, heap_alloc_old _ _ (by simp)]
      exact heap_alloc_new w _
    · rw [h3]
      have := heap_alloc_new (w.alloc (.cells #[.bool false, .int .u32 0] 56)) (.cells #[.bool true, .int .u32 0] 56)
      rw [World.size_alloc] at this
      exact this
    · rw [← hlen] at hj
      have := hcells j hj
      simp only [World.size_alloc] at this
      rw [this, ← hbs, List.getD_eq_getElem?_getD, List.getElem?_eq_getElem (by rw [bl_length]; exact hj), ← bl_get _ j hj]
      rfl
  simp only [World.size_alloc, hlen] at hrun
  have H6 := Lib.hid h6
  have HR0 := Lib.hid hr0
  have HBS := Lib.hid hbs2
  clear h6 hr0 hbs2 hb1 hz hcells hbs hlen
  go_enter Tryz.func23, Tryz.ntmps23
  go_wp2_with fail
  go_loopw [28] (fun i wr => ∃ (k n : Nat), k ≤ bs.length ∧ i = .int .i64 k ∧ n < 4294967296 ∧ Hid (hexN bs 0 = hexN (bs.drop k) n ∧ RdRel w true n bs wr)) (fun i _ => bs.length - (intOf i).toNat)
  case atStart => exact ⟨0, 0, Nat.zero_le _, rfl, by omega, rfl, HR0.out⟩
  case round =>
    obtain ⟨k, n, hk, rfl, hn, hr⟩ := hrel
    by_cases hlt : k < bs.length
    · have c0 : wr.cell? ⟨w.heap.size + 1 + 1, k, none⟩ = some (.int .u8 (bs.getD k 0).toNat) := hr.out.2.row k hlt
      have d1 : wr.cell? ⟨w.heap.size + 1, 1, none⟩ = some (.int .u32 n) := cell_of_row wr _ 1 _ _ _ hr.out.2.own
      have z1 := frozen_of_row wr _ 1 _ _ hr.out.2.own
      have r0 : wr.cell? ⟨w.heap.size, 0, none⟩ = some (.bool false) := cell_of_row wr _ 0 _ _ _ hr.out.2.res
      have r1 : wr.cell? ⟨w.heap.size, 1, none⟩ = some (.int .u32 0) := cell_of_row wr _ 1 _ _ _ hr.out.2.res
      have g0 := frozen_of_row wr _ 0 _ _ hr.out.2.res
      have g1 := frozen_of_row wr _ 1 _ _ hr.out.2.res
      have hst := hexN_step bs k n hlt
      have HST := Lib.hid hst
      clear hst
      generalize bs.getD k 0 = x at c0 HST
      have hx := x.toNat_lt
      by_cases hd : 48 ≤ x.toNat ∧ x.toNat ≤ 57
      · obtain ⟨hd1, hd2⟩ := hd
        have i1 : (48 : Int) ≤ x.toNat := by omega
        have i2 : (x.toNat : Int) ≤ 57 := by omega
        obtain ⟨m, hm⟩ : ∃ m, m = (n * 16 + (x.toNat - 48)) % 4294967296 := ⟨_, rfl⟩
        have b1 : bits .or .u32 ((n : Int) * 16 % 4294967296) ((x.toNat : Int) - 48) = (m : Int) := by
          rw [or4 _ _ (by omega) (by omega) (by omega) (by omega) (by omega)]; omega
        have hv : hexVal x = some (x.toNat - 48) := by unfold hexVal; rw [if_pos ⟨hd1, hd2⟩]
        have HV := Lib.hid hv
        have HM := Lib.hid hm
        have hm4 : m < 4294967296 := by omega
        clear hv hm hd1 hd2
        go_wp2_with fail
        go_roundw
        case rel => exact ⟨k + 1, m, by omega, rfl, hm4, by rw [hr.out.1, HST.out, HV.out, HM.out], hr.out.2.store m⟩
        case measure => simp [intOf]; omega
      · by_cases hd3 : 97 ≤ x.toNat ∧ x.toNat ≤ 102
        · obtain ⟨hd1, hd2⟩ := hd3
          have i1 : (97 : Int) ≤ x.toNat := by omega
          have i2 : (x.toNat : Int) ≤ 102 := by omega
          have i3 : ¬ (x.toNat : Int) ≤ 57 := by omega
          obtain ⟨m, hm⟩ : ∃ m, m = (n * 16 + (x.toNat - 87)) % 4294967296 := ⟨_, rfl⟩
          have b1 : bits .or .u32 ((n : Int) * 16 % 4294967296) ((x.toNat : Int) - 97 + 10) = (m : Int) := by
            rw [or4 _ _ (by omega) (by omega) (by omega) (by omega) (by omega)]; omega
          have hv : hexVal x = some (x.toNat - 87) := by unfold hexVal; rw [if_neg hd, if_pos ⟨hd1, hd2⟩]
          have HV := Lib.hid hv
          have HM := Lib.hid hm
          have hm4 : m < 4294967296 := by omega
          clear hv hm hd hd1 hd2
          go_wp2_with fail
          go_roundw
          case rel => exact ⟨k + 1, m, by omega, rfl, hm4, by rw [hr.out.1, HST.out, HV.out, HM.out], hr.out.2.store m⟩
          case measure => simp [intOf]; omega
        · have hv : hexVal x = none := by unfold hexVal; rw [if_neg hd, if_neg hd3]
          have HV := Lib.hid hv
          by_cases j1 : (x.toNat : Int) < 48
          · clear hd hd3 hv
            go_wp2_with fail
            refine bodyPost_ret (v := .tuple #[adv ⟨false, 0⟩, .bool false]) (by simp [results, Tryz.results23, go_sem, adv, r0, r1]) rfl ⟨_, false, rfl, ?_, by decide, (hr.out.2.below.setCell (Nat.le_refl _) _).setCell (Nat.le_refl _) _⟩
            exact readL_bad H6.out (by rw [HBS.out, hr.out.1, HST.out, HV.out])
          · by_cases j2 : (x.toNat : Int) ≤ 57
            · exact absurd ⟨by omega, by omega⟩ hd
            · by_cases j3 : (x.toNat : Int) < 97
              · clear hd hd3 hv
                go_wp2_with fail
                refine bodyPost_ret (v := .tuple #[adv ⟨false, 0⟩, .bool false]) (by simp [results, Tryz.results23, go_sem, adv, r0, r1]) rfl ⟨_, false, rfl, ?_, by decide, (hr.out.2.below.setCell (Nat.le_refl _) _).setCell (Nat.le_refl _) _⟩
                exact readL_bad H6.out (by rw [HBS.out, hr.out.1, HST.out, HV.out])
              · have j4 : ¬ (x.toNat : Int) ≤ 102 := fun h => hd3 ⟨by omega, by omega⟩
                clear hd hd3 hv
                go_wp2_with fail
                refine bodyPost_ret (v := .tuple #[adv ⟨false, 0⟩, .bool false]) (by simp [results, Tryz.results23, go_sem, adv, r0, r1]) rfl ⟨_, false, rfl, ?_, by decide, (hr.out.2.below.setCell (Nat.le_refl _) _).setCell (Nat.le_refl _) _⟩
                exact readL_bad H6.out (by rw [HBS.out, hr.out.1, HST.out, HV.out])
    · obtain rfl : k = bs.length := by omega
      have d0 : wr.cell? ⟨w.heap.size + 1, 0, none⟩ = some (.bool true) := cell_of_row wr _ 0 _ _ _ hr.out.2.own
      have d1 : wr.cell? ⟨w.heap.size + 1, 1, none⟩ = some (.int .u32 n) := cell_of_row wr _ 1 _ _ _ hr.out.2.own
      have r0 : wr.cell? ⟨w.heap.size, 0, none⟩ = some (.bool false) := cell_of_row wr _ 0 _ _ _ hr.out.2.res
      have r1 : wr.cell? ⟨w.heap.size, 1, none⟩ = some (.int .u32 0) := cell_of_row wr _ 1 _ _ _ hr.out.2.res
      have g0 := frozen_of_row wr _ 0 _ _ hr.out.2.res
      have g1 := frozen_of_row wr _ 1 _ _ hr.out.2.res
      by_cases h14 : s.size ≤ 14
      · have j1 : decide ((s.size : Int) ≤ 14) = true := decide_eq_true (by omega)
        have ht := text_any ⟨true, n⟩ wr hn
        have HT := Lib.hid (fun w => text_any ⟨true, n⟩ w hn)
        clear ht
        go_wp2_with fail
        go_region_held3 (fun w' => w'.cell? ⟨w.heap.size + 1, 0, none⟩ = some (.bool true) ∧ w'.cell? ⟨w.heap.size + 1, 1, none⟩ = some (.int .u32 n)) (first | exact hk1 | go_keep) (first | (go_at_call 27; refine (HT.out _).mono ?_; rintro e w2 ⟨t, rfl, ht, hb⟩; have hk1 := rd_held hr.out.2 hb; have HK := Lib.hid hk1; have k0 := rd_r0 hk1; have k1 := rd_r1 hk1; have k2 := rd_g0 hk1; have k3 := rd_g1 hk1; have HTT := Lib.hid ht; clear ht hb; revert hk1; intro hk1'; have hk1 := rd_s hk1'; clear hk1'))
        go_wp2_with fail
        refine bodyPost_ret (v := .tuple #[adv ⟨true, n⟩, .bool (t.toList == s.toList)]) (by simp [results, Tryz.results23, go_sem, adv, k0, k1]) rfl ?_
        have hrd := HK.out
        exact six_end H6.out HBS.out (by rw [hr.out.1, List.drop_length]; rfl) (by rw [HTT.out]; rfl) h14 hn ((hrd.below.setCell (Nat.le_refl _) _).setCell (Nat.le_refl _) _)
      · have j1 : decide ((s.size : Int) ≤ 14) = false := decide_eq_false (by omega)
        go_wp2_with fail
        go_region
        go_wp2_with fail
        refine bodyPost_ret (v := .tuple #[adv ⟨true, n⟩, .bool false]) (by simp [results, Tryz.results23, go_sem, adv, r0, r1]) rfl ⟨⟨true, n⟩, false, rfl, ?_, hn, ?_⟩
        · show readL (bl s) = none
          rw [readL_six H6.out (by rw [HBS.out, hr.out.1, List.drop_length]; rfl), if_neg (fun h => h14 (by rw [← bl_length]; exact h.1))]
        · exact below_drewN (((hr.out.2.below.setCell (Nat.le_refl _) _).setCell (Nat.le_refl _) _)) 1

end Go.Proofs.YtnehofekgnbelaaGreatDoor

/-
  The reference: the address of a text of four numbers.
-/
namespace Go.Proofs.YtnehofekgnbelaaGreatDoor
open Go.RowKit
set_option linter.unusedVariables false
set_option maxRecDepth 100000
set_option maxHeartbeats 1000000

theorem quad_step (k : Nat) (l : List UInt8) (n : Nat) : quadN k l n =
    if numOK 255 (cutL 46 l).1 = true ∧ (cutL 46 l).2.2 = decide (0 < k) then
      if k = 0 then some ((n * 256 + (numV 255 (cutL 46 l).1).toNat) % 4294967296)
      else quadN (k - 1) (cutL 46 l).2.1 ((n * 256 + (numV 255 (cutL 46 l).1).toNat) % 4294967296)
    else none := by
  cases k with
  | zero => rfl
  | succ k => rfl
theorem readL_four {l : List UInt8} (h6 : isSix l = false) : readL l = (quadN 3 l 0).map fun n => ⟨false, n⟩ := by
  unfold readL
  rw [h6]
  rfl

theorem numOK_val {most : Int} {l : List UInt8} (h : numOK most l = true) : 0 ≤ valL l ∧ valL l ≤ most := by
  unfold numOK at h
  simp only [Bool.and_eq_true] at h
  exact ⟨valL_nonneg l h.1.1.2, of_decide_eq_true h.2⟩
theorem rd_drawn {w wr : World} {six : Bool} {n : Nat} {bs : List UInt8} (h : RdRel w six n bs wr) (k : Nat) : RdRel w six n bs (wr.drewN k) :=
  ⟨h.res, h.own, fun j hj => by have := h.row j hj; simpa using this, below_drewN h.below k⟩

theorem read_four (s : ByteArray) (w : World) (h6 : isSix (bl s) = false) (hs : s.size ≤ 2147483647) :
    Calls Tryz.prog 23 #[.string s] w (ReadPost w (bl s)) := by
  have hr0 : RdRel w false 0 [] ((w.alloc (.cells #[.bool false, .int .u32 0] 56)).alloc (.cells #[.bool false, .int .u32 0] 56)) := by
    refine ⟨?_, ?_, fun j hj => by simp at hj, (((Below.refl w.heap.size w).alloc (Nat.le_refl _) _).alloc (by simp) _)⟩
    · rw [heap_alloc_old _ _ (by simp)]
      exact heap_alloc_new w _
    · have := heap_alloc_new (w.alloc (.cells #[.bool false, .int .u32 0] 56)) (.cells #[.bool false, .int .u32 0] 56)
      rw [World.size_alloc] at this
      exact this
  have t2 : 10 ≤ s.size → ((s.extract 0 10).toList == [50, 48, 48, 49, 58, 100, 98, 56, 58, 58]) = false := fun h => by
    rw [beq_eq_false_iff_ne, Lib.toList_data]
    have e := of_decide_eq_false h6
    have e2 := Lib.extract_data s 0 10
    rw [e2]
    exact e
  have H6 := Lib.hid h6
  have HR0 := Lib.hid hr0
  have H2 := Lib.hid t2
  clear h6 hr0 t2
  by_cases hsz : 10 ≤ s.size
  · have t1 : decide ((10 : Int) ≤ s.size) = true := decide_eq_true (by omega)
    have t2 := H2.out hsz
    go_enter Tryz.func23, Tryz.ntmps23
    go_wp2_with fail
    go_loopw [8, 9] (fun q i wr => ∃ (k n : Nat) (x : ByteArray), k ≤ 4 ∧ i = .int .i64 k ∧ q = .string x ∧ n < 4294967296 ∧ x.size ≤ 2147483647 ∧ Hid (quadN 3 (bl s) 0 = (if k = 4 then some n else quadN (3 - k) (bl x) n) ∧ RdRel w false n [] wr)) (fun _ i _ => 4 - (intOf i).toNat)
    case atStart => exact ⟨0, 0, s, by omega, rfl, rfl, by omega, hs, rfl, HR0.out⟩
    case round =>
      obtain ⟨k, n, x, hk, rfl, rfl, hn, hx, hr⟩ := hrel
      have d0 := (rd_s hr.out.2).1
      have d1 := (rd_s hr.out.2).2
      have z1 := frozen_of_row wr _ 1 _ _ hr.out.2.own
      have r0 := rd_r0 hr.out.2
      have r1 := rd_r1 hr.out.2
      have g0 := rd_g0 hr.out.2
      have g1 := rd_g1 hr.out.2
      by_cases hk4 : k = 4
      · subst hk4
        go_wp2_with fail
        refine bodyPost_ret (v := .tuple #[adv ⟨false, n⟩, .bool true]) (by simp [results, Tryz.results23, go_sem, adv, r0, r1]) rfl ⟨⟨false, n⟩, true, rfl, ?_, hn, ?_⟩
        · show readL (bl s) = _
          rw [readL_four H6.out, hr.out.1]; rfl
        · exact (((hr.out.2.below.setCell (Nat.le_refl _) _).setCell (Nat.le_refl _) _))
      · have hst := quad_step (3 - k) (bl x) n
        have HST := Lib.hid hst
        clear hst
        have j1 : decide ((k : Int) < 4) = true := decide_eq_true (by omega)
        go_wp2_with fail
        refine (cut_point x _ (by omega)).mono ?_
        rintro e w1 ⟨p, q, rfl, hp, hq, n1, rfl⟩
        have hsz := cutL_size 46 (bl x)
        generalize cutL 46 (bl x) = c at hp hq hsz HST ⊢
        obtain ⟨c1, c2, more⟩ := c
        simp only at hp hq hsz
        have hps : p.size ≤ 2147483647 := by rw [← bl_length, hp]; rw [bl_length] at hsz; omega
        have hqs : q.size ≤ 2147483647 := by rw [← bl_length, hq]; rw [bl_length] at hsz; omega
        subst hp hq
        have HSZ := Lib.hid hsz
        clear hsz
        go_wp2_with fail
        refine (number_any p 255 _ (by omega) (by omega) (by omega)).mono ?_
        rintro e w2 ⟨rfl, rfl⟩
        cases hok : numOK 255 (bl p) with
        | false =>
          have hno : quadN 3 (bl s) 0 = none := by
            rw [hr.out.1, if_neg hk4, HST.out, if_neg (fun h => by rw [hok] at h; exact absurd h.1 (by decide))]
          have HNO := Lib.hid hno
          clear hno hok
          go_wp2_with fail
          refine bodyPost_ret (v := .tuple #[adv ⟨false, 0⟩, .bool false]) (by simp [results, Tryz.results23, go_sem, adv, r0, r1]) rfl ⟨⟨false, 0⟩, false, rfl, ?_, by decide, ?_⟩
          · show readL (bl s) = none
            rw [readL_four H6.out, HNO.out]; rfl
          · exact (((below_drewN hr.out.2.below n1).setCell (Nat.le_refl _) _).setCell (Nat.le_refl _) _)
        | true =>
          have hval : numV 255 (bl p) = valL (bl p) := by unfold numV; rw [hok]; rfl
          have hv2 := numOK_val hok
          obtain ⟨g, hg⟩ : ∃ g : Nat, valL (bl p) = g := ⟨(valL (bl p)).toNat, by omega⟩
          rw [hval, hg]
          have hg2 : g ≤ 255 := by omega
          have hs2 : quadN 3 (bl s) 0 = if more = decide (0 < 3 - k) then (if 3 - k = 0 then some ((n * 256 + g) % 4294967296) else quadN (3 - k - 1) (bl q) ((n * 256 + g) % 4294967296)) else none := by
            rw [hr.out.1, if_neg hk4, HST.out, hok, hval, hg]
            simp
          have HS2 := Lib.hid hs2
          obtain ⟨m, hm⟩ : ∃ m, m = (n * 256 + g) % 4294967296 := ⟨_, rfl⟩
          have b1 : bits .or .u32 ((n : Int) * 256 % 4294967296) (g : Int) = (m : Int) := by
            rw [or8 _ _ (by omega) (by omega) (by omega) (by omega) (by omega)]; omega
          have HM := Lib.hid hm
          have hm4 : m < 4294967296 := by omega
          clear hok hval hv2 hg hs2 hm
          by_cases hmk : more = decide (0 < 3 - k)
          · obtain rfl | rfl | rfl | rfl : k = 0 ∨ k = 1 ∨ k = 2 ∨ k = 3 := by omega
            all_goals
              subst hmk
              go_wp2_with fail
              go_roundw
              case rel => first | exact ⟨1, m, q, by omega, rfl, rfl, hm4, hqs, by rw [HS2.out, HM.out]; rfl, (rd_drawn hr.out.2 n1).store m⟩ | exact ⟨2, m, q, by omega, rfl, rfl, hm4, hqs, by rw [HS2.out, HM.out]; rfl, (rd_drawn hr.out.2 n1).store m⟩ | exact ⟨3, m, q, by omega, rfl, rfl, hm4, hqs, by rw [HS2.out, HM.out]; rfl, (rd_drawn hr.out.2 n1).store m⟩ | exact ⟨4, m, q, by omega, rfl, rfl, hm4, hqs, by rw [HS2.out, HM.out]; rfl, (rd_drawn hr.out.2 n1).store m⟩
              case measure => simp [intOf]
          · have hno : quadN 3 (bl s) 0 = none := by rw [HS2.out, if_neg hmk]
            have HNO := Lib.hid hno
            obtain rfl | rfl | rfl | rfl : k = 0 ∨ k = 1 ∨ k = 2 ∨ k = 3 := by omega
            all_goals
              cases more
              all_goals (first | exact absurd rfl hmk | skip)
              clear hno hmk
              go_wp2_with fail
              refine bodyPost_ret (v := .tuple #[adv ⟨false, 0⟩, .bool false]) (by simp [results, Tryz.results23, go_sem, adv, r0, r1]) rfl ⟨⟨false, 0⟩, false, rfl, ?_, by decide, ?_⟩
              · show readL (bl s) = none
                rw [readL_four H6.out, HNO.out]; rfl
              · exact (((below_drewN hr.out.2.below n1).setCell (Nat.le_refl _) _).setCell (Nat.le_refl _) _)
  · have t1 : decide ((10 : Int) ≤ s.size) = false := decide_eq_false (by omega)
    go_enter Tryz.func23, Tryz.ntmps23
    go_wp2_with fail
    go_loopw [8, 9] (fun q i wr => ∃ (k n : Nat) (x : ByteArray), k ≤ 4 ∧ i = .int .i64 k ∧ q = .string x ∧ n < 4294967296 ∧ x.size ≤ 2147483647 ∧ Hid (quadN 3 (bl s) 0 = (if k = 4 then some n else quadN (3 - k) (bl x) n) ∧ RdRel w false n [] wr)) (fun _ i _ => 4 - (intOf i).toNat)
    case atStart => exact ⟨0, 0, s, by omega, rfl, rfl, by omega, hs, rfl, HR0.out⟩
    case round =>
      obtain ⟨k, n, x, hk, rfl, rfl, hn, hx, hr⟩ := hrel
      have d0 := (rd_s hr.out.2).1
      have d1 := (rd_s hr.out.2).2
      have z1 := frozen_of_row wr _ 1 _ _ hr.out.2.own
      have r0 := rd_r0 hr.out.2
      have r1 := rd_r1 hr.out.2
      have g0 := rd_g0 hr.out.2
      have g1 := rd_g1 hr.out.2
      by_cases hk4 : k = 4
      · subst hk4
        go_wp2_with fail
        refine bodyPost_ret (v := .tuple #[adv ⟨false, n⟩, .bool true]) (by simp [results, Tryz.results23, go_sem, adv, r0, r1]) rfl ⟨⟨false, n⟩, true, rfl, ?_, hn, ?_⟩
        · show readL (bl s) = _
          rw [readL_four H6.out, hr.out.1]; rfl
        · exact (((hr.out.2.below.setCell (Nat.le_refl _) _).setCell (Nat.le_refl _) _))
      · have hst := quad_step (3 - k) (bl x) n
        have HST := Lib.hid hst
        clear hst
        have j1 : decide ((k : Int) < 4) = true := decide_eq_true (by omega)
        go_wp2_with fail
        refine (cut_point x _ (by omega)).mono ?_
        rintro e w1 ⟨p, q, rfl, hp, hq, n1, rfl⟩
        have hsz := cutL_size 46 (bl x)
        generalize cutL 46 (bl x) = c at hp hq hsz HST ⊢
        obtain ⟨c1, c2, more⟩ := c
        simp only at hp hq hsz
        have hps : p.size ≤ 2147483647 := by rw [← bl_length, hp]; rw [bl_length] at hsz; omega
        have hqs : q.size ≤ 2147483647 := by rw [← bl_length, hq]; rw [bl_length] at hsz; omega
        subst hp hq
        have HSZ := Lib.hid hsz
        clear hsz
        go_wp2_with fail
        refine (number_any p 255 _ (by omega) (by omega) (by omega)).mono ?_
        rintro e w2 ⟨rfl, rfl⟩
        cases hok : numOK 255 (bl p) with
        | false =>
          have hno : quadN 3 (bl s) 0 = none := by
            rw [hr.out.1, if_neg hk4, HST.out, if_neg (fun h => by rw [hok] at h; exact absurd h.1 (by decide))]
          have HNO := Lib.hid hno
          clear hno hok
          go_wp2_with fail
          refine bodyPost_ret (v := .tuple #[adv ⟨false, 0⟩, .bool false]) (by simp [results, Tryz.results23, go_sem, adv, r0, r1]) rfl ⟨⟨false, 0⟩, false, rfl, ?_, by decide, ?_⟩
          · show readL (bl s) = none
            rw [readL_four H6.out, HNO.out]; rfl
          · exact (((below_drewN hr.out.2.below n1).setCell (Nat.le_refl _) _).setCell (Nat.le_refl _) _)
        | true =>
          have hval : numV 255 (bl p) = valL (bl p) := by unfold numV; rw [hok]; rfl
          have hv2 := numOK_val hok
          obtain ⟨g, hg⟩ : ∃ g : Nat, valL (bl p) = g := ⟨(valL (bl p)).toNat, by omega⟩
          rw [hval, hg]
          have hg2 : g ≤ 255 := by omega
          have hs2 : quadN 3 (bl s) 0 = if more = decide (0 < 3 - k) then (if 3 - k = 0 then some ((n * 256 + g) % 4294967296) else quadN (3 - k - 1) (bl q) ((n * 256 + g) % 4294967296)) else none := by
            rw [hr.out.1, if_neg hk4, HST.out, hok, hval, hg]
            simp
          have HS2 := Lib.hid hs2
          obtain ⟨m, hm⟩ : ∃ m, m = (n * 256 + g) % 4294967296 := ⟨_, rfl⟩
          have b1 : bits .or .u32 ((n : Int) * 256 % 4294967296) (g : Int) = (m : Int) := by
            rw [or8 _ _ (by omega) (by omega) (by omega) (by omega) (by omega)]; omega
          have HM := Lib.hid hm
          have hm4 : m < 4294967296 := by omega
          clear hok hval hv2 hg hs2 hm
          by_cases hmk : more = decide (0 < 3 - k)
          · obtain rfl | rfl | rfl | rfl : k = 0 ∨ k = 1 ∨ k = 2 ∨ k = 3 := by omega
            all_goals
              subst hmk
              go_wp2_with fail
              go_roundw
              case rel => first | exact ⟨1, m, q, by omega, rfl, rfl, hm4, hqs, by rw [HS2.out, HM.out]; rfl, (rd_drawn hr.out.2 n1).store m⟩ | exact ⟨2, m, q, by omega, rfl, rfl, hm4, hqs, by rw [HS2.out, HM.out]; rfl, (rd_drawn hr.out.2 n1).store m⟩ | exact ⟨3, m, q, by omega, rfl, rfl, hm4, hqs, by rw [HS2.out, HM.out]; rfl, (rd_drawn hr.out.2 n1).store m⟩ | exact ⟨4, m, q, by omega, rfl, rfl, hm4, hqs, by rw [HS2.out, HM.out]; rfl, (rd_drawn hr.out.2 n1).store m⟩
              case measure => simp [intOf]
          · have hno : quadN 3 (bl s) 0 = none := by rw [HS2.out, if_neg hmk]
            have HNO := Lib.hid hno
            obtain rfl | rfl | rfl | rfl : k = 0 ∨ k = 1 ∨ k = 2 ∨ k = 3 := by omega
            all_goals
              cases more
              all_goals (first | exact absurd rfl hmk | skip)
              clear hno hmk
              go_wp2_with fail
              refine bodyPost_ret (v := .tuple #[adv ⟨false, 0⟩, .bool false]) (by simp [results, Tryz.results23, go_sem, adv, r0, r1]) rfl ⟨⟨false, 0⟩, false, rfl, ?_, by decide, ?_⟩
              · show readL (bl s) = none
                rw [readL_four H6.out, HNO.out]; rfl
              · exact (((below_drewN hr.out.2.below n1).setCell (Nat.le_refl _) _).setCell (Nat.le_refl _) _)

end Go.Proofs.YtnehofekgnbelaaGreatDoor

/-
  The reference: read, IsAddress, Compare.
-/
namespace Go.Proofs.YtnehofekgnbelaaGreatDoor
open Go.RowKit
set_option linter.unusedVariables false
set_option maxRecDepth 100000
set_option maxHeartbeats 1000000

theorem read_any (s : ByteArray) (w : World) (hs : s.size ≤ 2147483647) :
    Calls Tryz.prog 23 #[.string s] w (ReadPost w (bl s)) := by
  cases h : isSix (bl s) with
  | true => exact read_six s w h hs
  | false => exact read_four s w h hs

def isAddr (l : List UInt8) : Bool := (readL l).isSome
def BoolPost (w : World) (b : Bool) (e : Ending) (w' : World) : Prop := e = .returned (.bool b) ∧ Below w.heap.size w w'

theorem isAddress_any (s : ByteArray) (w : World) (hs : s.size ≤ 2147483647) :
    Calls Tryz.prog 25 #[.string s] w (BoolPost w (isAddr (bl s))) := by
  go_enter Tryz.func25, Tryz.ntmps25
  go_wp2_with fail
  refine (read_any s _ hs).mono ?_
  rintro e w' ⟨a, ok, rfl, ha, hn, hb⟩
  have HA := Lib.hid ha
  have HB := Lib.hid hb
  clear ha hb
  unfold adv
  go_wp2_with fail
  go_ret
  refine ⟨ret_bool ?_, HB.out.alloc HB.out.size _⟩
  have h := HA.out
  unfold isAddr
  cases ok with
  | true => rw [if_pos rfl] at h; rw [h]; rfl
  | false => rw [if_neg (by decide)] at h; rw [h]; rfl

theorem read_is {l : List UInt8} {a a' : Ad} {ok : Bool} (h : readL l = some a) (h' : if ok = true then readL l = some a' else readL l = none) : a' = a ∧ ok = true := by
  cases ok with
  | true => rw [if_pos rfl, h] at h'; exact ⟨(Option.some.inj h').symm, rfl⟩
  | false => rw [if_neg (by decide), h] at h'; cases h'


end Go.Proofs.YtnehofekgnbelaaGreatDoor

/-
  Texts put together: AdEq, IsR,
-/
import Derived.Test.YtnehofekgnbelaaGreatDoorY26
import Derived.Laws.StructEq
namespace Go.Proofs.YtnehofekgnbelaaGreatDoor
open Go.RowKit
set_option linter.unusedVariables false
set_option maxRecDepth 100000
set_option maxHeartbeats 1000000
theorem zbI : ∃ f g : Field, (Tryz.prog.fieldsOf 56).toList = [f, g] ∧ f.name ≠ "_" ∧ g.name ≠ "_" ∧ f.offset = 0 ∧ g.offset = 1 ∧ f.type = 4 ∧ g.type = 54 := by
 refine ⟨(Tryz.prog.fieldsOf 56)[0]!, (Tryz.prog.fieldsOf 56)[1]!, by kernel_rfl, by decide +kernel, by decide +kernel, by kernel_rfl, by kernel_rfl, by kernel_rfl, by kernel_rfl⟩
theorem zaL (w : World) (b b' : Bool) (x y : Int) : (binOp .neq 56 (.agg #[.bool b, .int .u32 x]) (.agg #[.bool b', .int .u32 y])).run Tryz.prog w = .ok (.bool (!((b == b') && (x == y)))) w := by
 have h1 : Tryz.prog.underlying 56 = some (.struct (Tryz.prog.fieldsOf 56)) := by kernel_rfl
 have h2 : Tryz.prog.stoodInHeld 56 = false := by kernel_rfl
 rw [run_neq_struct, run_equalIn_agg w 9999 _ _ _ h1 h2]
 obtain ⟨f, g, hf, n1, n2, o1, o2, t1, t2⟩ := zbI
 rw [hf]
 have u1 : Tryz.prog.underlying 4 = some .bool := by kernel_rfl
 have u2 : Tryz.prog.underlying 54 = some (.int .u32) := by kernel_rfl
 have p1 : ∀ w, (part 4 #[.bool b, .int .u32 x] 0).run Tryz.prog w = .ok (.bool b) w := fun w => by kernel_rfl
 have p1' : ∀ w, (part 4 #[.bool b', .int .u32 y] 0).run Tryz.prog w = .ok (.bool b') w := fun w => by kernel_rfl
 have p2 : ∀ w, (part 54 #[.bool b, .int .u32 x] 1).run Tryz.prog w = .ok (.int .u32 x) w := fun w => by kernel_rfl
 have p2' : ∀ w, (part 54 #[.bool b', .int .u32 y] 1).run Tryz.prog w = .ok (.int .u32 y) w := fun w => by kernel_rfl
 have e1 : ∀ w, (Op.equalIn 9999 4 (.bool b) (.bool b')).run Tryz.prog w = .ok (b == b') w := fun w => run_equalIn_bool' w 9998 _ _ _ u1
 have e2 : ∀ w, (Op.equalIn 9999 54 (.int .u32 x) (.int .u32 y)).run Tryz.prog w = .ok (x == y) w := fun w => run_equalIn_int w 9998 _ .u32 .u32 _ _ u2
 simp only [Op.eqFields, n1, n2, o1, o2, t1, t2, ne_eq, not_false_eq_true, if_true, Sem.run_bind, p1, p1', p2, p2', e1, e2, Result.andThen_ok, Sem.run_ite]
 cases hb : (b == b') <;> cases hx : (x == y) <;> simp [Sem.run_pure, Result.andThen_ok]
theorem yU (op : BinOp) (x y : Operand) (xs ys : Array Value) (w : World) : (eqGuard op 56 x y (.agg xs) (.agg ys)).run Tryz.prog w = .ok () w :=
 run_eqGuard_agg w op _ x y xs ys (by kernel_rfl)
set_option maxHeartbeats 4000000
def zaM (s : ByteArray) : Prop := s.size = 0 ∨ isAddr (bl s) = true
theorem zaM.opt {s : ByteArray} (h : zaM s) : ∃ o, TextIs s o ∧ ∀ a, o = some a → a.ok := by
 rcases h with h | h
 ·exact ⟨none, h, fun a ha => by cases ha⟩
 ·unfold isAddr at h
  obtain ⟨a, ha⟩ := Option.isSome_iff_exists.1 h
  exact ⟨some a, ha, fun b hb => by cases hb; exact readL_ok ha⟩
structure IsRel (w : World) (A N : Nat) (s0 s1 s2 s3 : ByteArray) (six : Bool) (m : Nat) (i : Nat) (wr : World) : Prop where
 arr : wr.heap[A]? = some (.cells #[.string s1, .string s2, .string s3] 9 (0, 0))
 box : wr.heap[w.heap.size]? = some (.cells #[.string s0, .string s1, .string s2, .string s3] 23 (0, 0))
 ad : wr.heap[N]? = some (.cells #[.bool six, .int .u32 m] 56 (0, 0))
 below : Below w.heap.size w wr
 x1 : 0 < i → zaM s1
 x2 : 1 < i → zaM s2
 x3 : 2 < i → zaM s3
theorem IsRel.on {w : World} {A N : Nat} {s0 s1 s2 s3 : ByteArray} {six : Bool} {m : Nat} {i : Nat} {wr w2 : World} (h : IsRel w A N s0 s1 s2 s3 six m i wr) (hb : Below wr.heap.size wr w2) : IsRel w A N s0 s1 s2 s3 six m i w2 :=
 ⟨row_on hb h.arr, row_on hb h.box, row_on hb h.ad, below_tr h.below hb, h.x1, h.x2, h.x3⟩
theorem xU {most : Int} {l : List UInt8} (h : numOK most l = true) : l ≠ [] ∧ l.all isDig = true ∧ ¬ (1 < l.length ∧ l.head? = some 48) ∧ valL l ≤ most := by
 unfold numOK at h
 simp only [Bool.and_eq_true, decide_eq_true_eq, Bool.not_eq_true', Bool.and_eq_false_iff, decide_eq_false_iff_not] at h
 obtain ⟨⟨⟨h1, h2⟩, h3⟩, h4⟩ := h
 exact ⟨h1, h2, fun ⟨x, y⟩ => h3.elim (fun h => h x) (fun h => h y), h4⟩
theorem zcO {b : UInt8} (h : isDig b = true) : 48 ≤ (b.toNat : Int) ∧ (b.toNat : Int) ≤ 57 := by unfold isDig at h; exact of_decide_eq_true h
theorem zhC {l : List UInt8} (h : numOK 128 l = true) : l.length ≤ 3 := by
 obtain ⟨h1, h2, h3, h4⟩ := xU h
 match l, h1, h2, h3, h4 with
 | [], _, _, _, _ => simp
 | [_], _, _, _, _ => simp
 | [_, _], _, _, _, _ => simp
 | [_, _, _], _, _, _, _ => simp
 | a :: b :: c :: d :: r, _, h2, h3, h4 =>
  exfalso
  have hm := valL_mono [a, b, c, d] r h2
  have hv : valL ([a, b, c, d] ++ r) = valL (a :: b :: c :: d :: r) := rfl
  rw [hv] at hm
  have h48 : a ≠ 48 := fun e => h3 ⟨by simp, by rw [e]; rfl⟩
  simp only [List.all_cons, Bool.and_eq_true] at h2
  have da := zcO h2.1
  have db := zcO h2.2.1
  have dc := zcO h2.2.2.1
  have dd := zcO h2.2.2.2.1
  have ha : (a.toNat : Int) ≠ 48 := fun e => h48 (by apply UInt8.toNat_inj.1; simpa using Int.ofNat.inj e)
  have hx : valL [a, b, c, d] = 10 * (10 * (10 * (10 * 0 + ((a.toNat : Int) - 48)) + ((b.toNat : Int) - 48)) + ((c.toNat : Int) - 48)) + ((d.toNat : Int) - 48) := rfl
  rw [hx] at hm
  omega
theorem zfF {m m' : Int} {l : List UInt8} (h : numOK m l = true) (hm : m ≤ m') : numOK m' l = true := by
 unfold numOK at h ⊢
 simp only [Bool.and_eq_true, decide_eq_true_eq] at h ⊢
 exact ⟨h.1, by omega⟩
theorem zmM {l : List UInt8} {a : Ad} (hm : (cutL 47 l).2.2 = true) (ha : readL (cutL 47 l).1 = some a) (hn : numOK (if a.six then 128 else 32) (cutL 47 l).2.1 = true) (h6 : a.six = true → 112 ≤ valL (cutL 47 l).2.1) :
  NetOf l a (8 * a.width - (valL (cutL 47 l).2.1).toNat) ∧ l.length ≤ 64 := by
 obtain ⟨h1, h2, h3, h4⟩ := xU hn
 have h0 := valL_nonneg _ h2
 have hlen := zhC (zfF hn (by split <;> omega))
 have hl := addr_length (s := ⟨(cutL 47 l).1.toArray⟩) (a := a) (by simpa [bl] using ha)
 have hc := (cutL_all 47 l).1
 refine ⟨⟨hm, ha, h2, (by rcases hq : (cutL 47 l).2.1 with _ | ⟨x, r⟩; exact absurd hq h1; simp), ?_, ?_⟩, ?_⟩
 ·have : valL (cutL 47 l).2.1 ≤ 8 * a.width := by unfold Ad.width; split at h4 <;> rename_i hs <;> simp [hs] <;> omega
  omega
 ·unfold Ad.width Ad.room
  cases hs : a.six with
  | true => have := h6 hs; simp <;> omega
  | false => simp <;> omega
 ·have : (cutL 47 l).1.length ≤ 15 := by simpa [ByteArray.size] using hl
  omega
def yP (R : RIn) : Prop := R.a.six = false → R.o2 = none → ∀ s, R.o1 = some s → R.a.n % 2 ^ R.free = 0 → s ≠ R.a.last R.free
def zlN (w : World) (s0 s1 s2 s3 : ByteArray) (e : Ending) (w' : World) : Prop :=
 ∃ ok : Bool, e = .returned (.bool ok) ∧ (ok = true → ∃ R, RTexts s0 s1 s2 s3 R ∧ ROk R ∧ yP R ∧ numOK 128 (cutL 47 (bl s0)).2.1 = true) ∧ Below w.heap.size w w'
theorem yD {s : ByteArray} (h : s.toList.isEmpty = true) : s.size = 0 := by
 rw [Lib.toList_data, List.isEmpty_iff] at h
 have := congrArg List.length h
 simpa using this
theorem zfV {s : ByteArray} (h : s.size = 0) : s.toList.isEmpty = true := by
 rw [Lib.toList_data, List.isEmpty_iff]
 exact List.length_eq_zero_iff.1 (by simpa using h)
theorem zjM {s : ByteArray} (h : s.size = 0) : bl s = [] := List.length_eq_zero_iff.1 (by rw [bl_length]; exact h)
theorem zdD {s0 s1 s2 s3 : ByteArray} {a : Ad} (hm : (cutL 47 (bl s0)).2.2 = true) (ha : readL (cutL 47 (bl s0)).1 = some a) (hn : numOK (if a.six then 128 else 32) (cutL 47 (bl s0)).2.1 = true) (h6 : a.six = true → 112 ≤ valL (cutL 47 (bl s0)).2.1)
  (x1 : zaM s1) (x2 : zaM s2) (x3 : zaM s3) (hg : a.six = false → s2.size = 0 → ∀ s, readL (bl s1) = some s → a.n % 2 ^ (32 - (valL (cutL 47 (bl s0)).2.1).toNat) = 0 → s ≠ a.last (32 - (valL (cutL 47 (bl s0)).2.1).toNat)) :
  ∃ R, RTexts s0 s1 s2 s3 R ∧ ROk R ∧ yP R ∧ numOK 128 (cutL 47 (bl s0)).2.1 = true := by
 obtain ⟨hN, hl⟩ := zmM hm ha hn h6
 obtain ⟨o1, t1, k1⟩ := x1.opt
 obtain ⟨o2, t2, k2⟩ := x2.opt
 obtain ⟨o3, t3, k3⟩ := x3.opt
 refine ⟨⟨a, 8 * a.width - (valL (cutL 47 (bl s0)).2.1).toNat, o1, o2, o3⟩, ⟨hN, by rw [← bl_length]; exact hl, t1, t2, t3⟩, ⟨readL_ok ha, hN.room, k1, k2, k3⟩, ?_, zfF hn (by split <;> omega)⟩
 intro g6 g2 s g1
 simp only at g6 g2 g1
 subst g2 g1
 have hw : 8 * a.width = 32 := by unfold Ad.width; rw [g6]; rfl
 rw [hw]
 exact hg g6 t2 s t1
theorem zeK (s0 s1 s2 s3 : ByteArray) (w : World) (z0 : s0.size ≤ 2147483647) (z1 : s1.size ≤ 2147483647) (z2 : s2.size ≤ 2147483647) (z3 : s3.size ≤ 2147483647) :
  Calls Tryz.prog 9 #[.agg #[.string s0, .string s1, .string s2, .string s3]] w (zlN w s0 s1 s2 s3) := by
 go_enter Tryz.func9, Tryz.ntmps9
 go_wp2_with fail
 refine (cut_stroke s0 _ (by omega)).mono ?_
 rintro e w1 ⟨p, q, rfl, hp, hq, n, rfl⟩
 have hps : p.size ≤ 2147483647 := by have := cutL_size 47 (bl s0); rw [← hp, bl_length, bl_length] at this; omega
 have hqs : q.size ≤ 2147483647 := by have := cutL_size 47 (bl s0); rw [← hq, bl_length, bl_length] at this; omega
 have HP := Lib.hid hp
 have HQ := Lib.hid hq
 have HN0 := Lib.hid (below_drewN (Below.refl (w.alloc (.cells #[.string s0, .string s1, .string s2, .string s3] 23)).heap.size (w.alloc (.cells #[.string s0, .string s1, .string s2, .string s3] 23))) n)
 clear hp hq
 go_wp2_with fail
 refine (read_any p _ hps).mono ?_
 rintro e w1 ⟨a, ok, rfl, ha, hn, hb1⟩
 have HA := Lib.hid ha
 have hb0 := below_tr HN0.out hb1
 have hrow := nz5_old' hb0
 have HROW := Lib.hid hrow.1
 have HB1 := Lib.hid hrow.2
 have hlt : w.heap.size < w1.heap.size := by have := hb0.size; simp at this; omega
 have c0 : w1.cell? ⟨w.heap.size, 0, none⟩ = some (.string s0) := cell_of_row w1 _ 0 _ _ _ hrow.1
 have c1 : w1.cell? ⟨w.heap.size, 1, none⟩ = some (.string s1) := cell_of_row w1 _ 1 _ _ _ hrow.1
 have c2 : w1.cell? ⟨w.heap.size, 2, none⟩ = some (.string s2) := cell_of_row w1 _ 2 _ _ _ hrow.1
 have c3 : w1.cell? ⟨w.heap.size, 3, none⟩ = some (.string s3) := cell_of_row w1 _ 3 _ _ _ hrow.1
 clear ha hb1 hb0 hrow
 unfold adv
 cases hmore : (cutL 47 (bl s0)).2.2 with
 | false =>
  clear hmore
  cases h6 : a.six with
  | true =>
   go_wp2_with fail
   refine (number_any q 128 _ (by omega) (by omega) (by omega)).mono ?_
   rintro e w2 ⟨rfl, rfl⟩
   go_wp2_with fail
   go_ret
   exact ⟨false, rfl, (fun h => by cases h), HB1.out.alloc HB1.out.size _⟩
  | false =>
   go_wp2_with fail
   refine (number_any q 32 _ (by omega) (by omega) (by omega)).mono ?_
   rintro e w2 ⟨rfl, rfl⟩
   go_wp2_with fail
   go_ret
   exact ⟨false, rfl, (fun h => by cases h), HB1.out.alloc HB1.out.size _⟩
 | true =>
  have HM := Lib.hid hmore
  clear hmore
  cases ok with
  | false =>
   cases h6 : a.six with
   | true =>
    go_wp2_with fail
    refine (number_any q 128 _ (by omega) (by omega) (by omega)).mono ?_
    rintro e w2 ⟨rfl, rfl⟩
    go_wp2_with fail
    go_ret
    exact ⟨false, rfl, (fun h => by cases h), HB1.out.alloc HB1.out.size _⟩
   | false =>
    go_wp2_with fail
    refine (number_any q 32 _ (by omega) (by omega) (by omega)).mono ?_
    rintro e w2 ⟨rfl, rfl⟩
    go_wp2_with fail
    go_ret
    exact ⟨false, rfl, (fun h => by cases h), HB1.out.alloc HB1.out.size _⟩
  | true =>
   have HAD := Lib.hid (show readL (cutL 47 (bl s0)).1 = some a by have h := HA.out; rw [if_pos rfl, HP.out] at h; exact h)
   cases h6 : a.six with
   | true =>
    have H6 := Lib.hid h6
    clear h6
    go_wp2_with fail
    refine (number_any q 128 _ (by omega) (by omega) (by omega)).mono ?_
    rintro e w2 ⟨rfl, rfl⟩
    cases hfine : numOK 128 (bl q) with
    | false =>
     go_wp2_with fail
     go_ret
     exact ⟨false, rfl, (fun h => by cases h), HB1.out.alloc HB1.out.size _⟩
    | true =>
     have HFINE := Lib.hid (show numOK 128 (cutL 47 (bl s0)).2.1 = true by rw [← HQ.out]; exact hfine)
     rw [show numV 128 (bl q) = valL (bl q) by unfold numV; rw [hfine]; rfl]
     clear hfine
     by_cases h112 : valL (bl q) < 112
     ·have t112 : decide (valL (bl q) < 112) = true := decide_eq_true h112
      go_wp2_with fail
      go_ret
      exact ⟨false, rfl, (fun h => by cases h), HB1.out.alloc HB1.out.size _⟩
     have t112 : decide (valL (bl q) < 112) = false := decide_eq_false h112
     have H112 := Lib.hid (show 112 ≤ valL (cutL 47 (bl s0)).2.1 by rw [← HQ.out]; omega)
     clear h112
     go_wp2_with fail
     have hal1 : Below w1.heap.size w1 (w1.alloc (.cells #[.bool true, .int .u32 a.n] 56)) := (Below.refl _ _).alloc (Nat.le_refl _) _
     have hal2 : Below w1.heap.size w1 ((w1.alloc (.cells #[.bool true, .int .u32 a.n] 56)).alloc (.cells #[.string s1, .string s2, .string s3] 9)) := hal1.alloc hal1.size _
     have HST := Lib.hid (show IsRel w (w1.heap.size + 1) w1.heap.size s0 s1 s2 s3 true a.n 0 ((w1.alloc (.cells #[.bool true, .int .u32 a.n] 56)).alloc (.cells #[.string s1, .string s2, .string s3] 9)) from
      ⟨by have := heap_alloc_new (w1.alloc (.cells #[.bool true, .int .u32 a.n] 56)) (.cells #[.string s1, .string s2, .string s3] 9); simpa using this, row_on hal2 HROW.out, (heap_alloc_old _ _ (by simp)).trans (heap_alloc_new w1 _), below_tr HB1.out hal2, (fun h => by omega), (fun h => by omega), (fun h => by omega)⟩)
     clear hal1 hal2 c0 c1 c2 c3
     go_loopw [62] (fun p wr => ∃ i : Nat, i ≤ 3 ∧ p = .int .i64 i ∧ Hid (IsRel w (w1.heap.size + 1) w1.heap.size s0 s1 s2 s3 true a.n i wr)) (fun p _ => 3 - (intOf p).toNat)
     case atStart => exact ⟨0, by omega, rfl, HST.out⟩
     case round =>
      obtain ⟨i, hi, rfl, hr⟩ := hrel
      have harr := hr.out.arr
      have hsz := (Array.getElem?_eq_some_iff.1 harr).1
      have a0 : wr.cell? ⟨w1.heap.size + 1, 0, none⟩ = some _ := cell_of_row wr _ 0 _ _ _ harr
      have a1 : wr.cell? ⟨w1.heap.size + 1, 1, none⟩ = some _ := cell_of_row wr _ 1 _ _ _ harr
      have a2 : wr.cell? ⟨w1.heap.size + 1, 2, none⟩ = some _ := cell_of_row wr _ 2 _ _ _ harr
      clear harr
      obtain rfl | rfl | rfl | rfl : i = 0 ∨ i = 1 ∨ i = 2 ∨ i = 3 := by omega
      ·cases ht : s1.toList.isEmpty with
       | true =>
        have HT := Lib.hid ht
        clear ht
        have ht := HT.out
        go_wp2_with fail
        go_roundw
        case rel => exact ⟨1, by omega, rfl, ⟨hr.out.arr, hr.out.box, hr.out.ad, hr.out.below, (fun _ => .inl (yD HT.out)), (fun h => by omega), (fun h => by omega)⟩⟩
        case measure => simp [intOf]
       | false =>
        go_wp2_with fail
        refine (isAddress_any s1 _ (by omega)).mono ?_
        rintro e w5 ⟨rfl, hb5⟩
        have HR5 := Lib.hid (hr.out.on hb5)
        clear hb5
        cases hi2 : isAddr (bl s1) with
        | false =>
         clear hi2
         go_wp2_with fail
         go_ret
         exact ⟨false, rfl, (fun h => by cases h), HR5.out.below⟩
        | true =>
         have HT := Lib.hid hi2
         clear hi2
         go_wp2_with fail
         go_roundw
         case rel => exact ⟨1, by omega, rfl, ⟨HR5.out.arr, HR5.out.box, HR5.out.ad, HR5.out.below, (fun _ => .inr HT.out), (fun h => by omega), (fun h => by omega)⟩⟩
         case measure => simp [intOf]
      ·cases ht : s2.toList.isEmpty with
       | true =>
        have HT := Lib.hid ht
        clear ht
        have ht := HT.out
        go_wp2_with fail
        go_roundw
        case rel => exact ⟨2, by omega, rfl, ⟨hr.out.arr, hr.out.box, hr.out.ad, hr.out.below, (fun _ => hr.out.x1 (by omega)), (fun _ => .inl (yD HT.out)), (fun h => by omega)⟩⟩
        case measure => simp [intOf]
       | false =>
        go_wp2_with fail
        refine (isAddress_any s2 _ (by omega)).mono ?_
        rintro e w5 ⟨rfl, hb5⟩
        have HR5 := Lib.hid (hr.out.on hb5)
        clear hb5
        cases hi2 : isAddr (bl s2) with
        | false =>
         clear hi2
         go_wp2_with fail
         go_ret
         exact ⟨false, rfl, (fun h => by cases h), HR5.out.below⟩
        | true =>
         have HT := Lib.hid hi2
         clear hi2
         go_wp2_with fail
         go_roundw
         case rel => exact ⟨2, by omega, rfl, ⟨HR5.out.arr, HR5.out.box, HR5.out.ad, HR5.out.below, (fun _ => HR5.out.x1 (by omega)), (fun _ => .inr HT.out), (fun h => by omega)⟩⟩
         case measure => simp [intOf]
      ·cases ht : s3.toList.isEmpty with
       | true =>
        have HT := Lib.hid ht
        clear ht
        have ht := HT.out
        go_wp2_with fail
        go_roundw
        case rel => exact ⟨3, by omega, rfl, ⟨hr.out.arr, hr.out.box, hr.out.ad, hr.out.below, (fun _ => hr.out.x1 (by omega)), (fun _ => hr.out.x2 (by omega)), (fun _ => .inl (yD HT.out))⟩⟩
        case measure => simp [intOf]
       | false =>
        go_wp2_with fail
        refine (isAddress_any s3 _ (by omega)).mono ?_
        rintro e w5 ⟨rfl, hb5⟩
        have HR5 := Lib.hid (hr.out.on hb5)
        clear hb5
        cases hi2 : isAddr (bl s3) with
        | false =>
         clear hi2
         go_wp2_with fail
         go_ret
         exact ⟨false, rfl, (fun h => by cases h), HR5.out.below⟩
        | true =>
         have HT := Lib.hid hi2
         clear hi2
         go_wp2_with fail
         go_roundw
         case rel => exact ⟨3, by omega, rfl, ⟨HR5.out.arr, HR5.out.box, HR5.out.ad, HR5.out.below, (fun _ => HR5.out.x1 (by omega)), (fun _ => HR5.out.x2 (by omega)), (fun _ => .inr HT.out)⟩⟩
         case measure => simp [intOf]
      ·have d0 : wr.cell? ⟨w1.heap.size, 0, none⟩ = some _ := cell_of_row wr _ 0 _ _ _ hr.out.ad
       have d1 : wr.cell? ⟨w1.heap.size, 1, none⟩ = some _ := cell_of_row wr _ 1 _ _ _ hr.out.ad
       have b1 : wr.cell? ⟨w.heap.size, 1, none⟩ = some (.string s1) := cell_of_row wr _ 1 _ _ _ hr.out.box
       have b2 : wr.cell? ⟨w.heap.size, 2, none⟩ = some (.string s2) := cell_of_row wr _ 2 _ _ _ hr.out.box
       go_wp2_with fail
       go_ret
       exact ⟨true, rfl, (fun _ => zdD HM.out HAD.out (by rw [H6.out]; exact HFINE.out) (fun _ => H112.out) (hr.out.x1 (by omega)) (hr.out.x2 (by omega)) (hr.out.x3 (by omega)) (fun h => by rw [H6.out] at h; cases h)), hr.out.below⟩
   | false =>
    have H6 := Lib.hid h6
    clear h6
    go_wp2_with fail
    refine (number_any q 32 _ (by omega) (by omega) (by omega)).mono ?_
    rintro e w2 ⟨rfl, rfl⟩
    cases hfine : numOK 32 (bl q) with
    | false =>
     go_wp2_with fail
     go_ret
     exact ⟨false, rfl, (fun h => by cases h), HB1.out.alloc HB1.out.size _⟩
    | true =>
     have HFINE := Lib.hid (show numOK 32 (cutL 47 (bl s0)).2.1 = true by rw [← HQ.out]; exact hfine)
     rw [show numV 32 (bl q) = valL (bl q) by unfold numV; rw [hfine]; rfl]
     clear hfine
     go_wp2_with fail
     have hal1 : Below w1.heap.size w1 (w1.alloc (.cells #[.bool false, .int .u32 a.n] 56)) := (Below.refl _ _).alloc (Nat.le_refl _) _
     have hal2 : Below w1.heap.size w1 ((w1.alloc (.cells #[.bool false, .int .u32 a.n] 56)).alloc (.cells #[.string s1, .string s2, .string s3] 9)) := hal1.alloc hal1.size _
     have HST := Lib.hid (show IsRel w (w1.heap.size + 1) w1.heap.size s0 s1 s2 s3 false a.n 0 ((w1.alloc (.cells #[.bool false, .int .u32 a.n] 56)).alloc (.cells #[.string s1, .string s2, .string s3] 9)) from
      ⟨by have := heap_alloc_new (w1.alloc (.cells #[.bool false, .int .u32 a.n] 56)) (.cells #[.string s1, .string s2, .string s3] 9); simpa using this, row_on hal2 HROW.out, (heap_alloc_old _ _ (by simp)).trans (heap_alloc_new w1 _), below_tr HB1.out hal2, (fun h => by omega), (fun h => by omega), (fun h => by omega)⟩)
     clear hal1 hal2 c0 c1 c2 c3
     go_loopw [62] (fun p wr => ∃ i : Nat, i ≤ 3 ∧ p = .int .i64 i ∧ Hid (IsRel w (w1.heap.size + 1) w1.heap.size s0 s1 s2 s3 false a.n i wr)) (fun p _ => 3 - (intOf p).toNat)
     case atStart => exact ⟨0, by omega, rfl, HST.out⟩
     case round =>
      obtain ⟨i, hi, rfl, hr⟩ := hrel
      have harr := hr.out.arr
      have hsz := (Array.getElem?_eq_some_iff.1 harr).1
      have a0 : wr.cell? ⟨w1.heap.size + 1, 0, none⟩ = some _ := cell_of_row wr _ 0 _ _ _ harr
      have a1 : wr.cell? ⟨w1.heap.size + 1, 1, none⟩ = some _ := cell_of_row wr _ 1 _ _ _ harr
      have a2 : wr.cell? ⟨w1.heap.size + 1, 2, none⟩ = some _ := cell_of_row wr _ 2 _ _ _ harr
      clear harr
      obtain rfl | rfl | rfl | rfl : i = 0 ∨ i = 1 ∨ i = 2 ∨ i = 3 := by omega
      ·cases ht : s1.toList.isEmpty with
       | true =>
        have HT := Lib.hid ht
        clear ht
        have ht := HT.out
        go_wp2_with fail
        go_roundw
        case rel => exact ⟨1, by omega, rfl, ⟨hr.out.arr, hr.out.box, hr.out.ad, hr.out.below, (fun _ => .inl (yD HT.out)), (fun h => by omega), (fun h => by omega)⟩⟩
        case measure => simp [intOf]
       | false =>
        go_wp2_with fail
        refine (isAddress_any s1 _ (by omega)).mono ?_
        rintro e w5 ⟨rfl, hb5⟩
        have HR5 := Lib.hid (hr.out.on hb5)
        clear hb5
        cases hi2 : isAddr (bl s1) with
        | false =>
         clear hi2
         go_wp2_with fail
         go_ret
         exact ⟨false, rfl, (fun h => by cases h), HR5.out.below⟩
        | true =>
         have HT := Lib.hid hi2
         clear hi2
         go_wp2_with fail
         go_roundw
         case rel => exact ⟨1, by omega, rfl, ⟨HR5.out.arr, HR5.out.box, HR5.out.ad, HR5.out.below, (fun _ => .inr HT.out), (fun h => by omega), (fun h => by omega)⟩⟩
         case measure => simp [intOf]
      ·cases ht : s2.toList.isEmpty with
       | true =>
        have HT := Lib.hid ht
        clear ht
        have ht := HT.out
        go_wp2_with fail
        go_roundw
        case rel => exact ⟨2, by omega, rfl, ⟨hr.out.arr, hr.out.box, hr.out.ad, hr.out.below, (fun _ => hr.out.x1 (by omega)), (fun _ => .inl (yD HT.out)), (fun h => by omega)⟩⟩
        case measure => simp [intOf]
       | false =>
        go_wp2_with fail
        refine (isAddress_any s2 _ (by omega)).mono ?_
        rintro e w5 ⟨rfl, hb5⟩
        have HR5 := Lib.hid (hr.out.on hb5)
        clear hb5
        cases hi2 : isAddr (bl s2) with
        | false =>
         clear hi2
         go_wp2_with fail
         go_ret
         exact ⟨false, rfl, (fun h => by cases h), HR5.out.below⟩
        | true =>
         have HT := Lib.hid hi2
         clear hi2
         go_wp2_with fail
         go_roundw
         case rel => exact ⟨2, by omega, rfl, ⟨HR5.out.arr, HR5.out.box, HR5.out.ad, HR5.out.below, (fun _ => HR5.out.x1 (by omega)), (fun _ => .inr HT.out), (fun h => by omega)⟩⟩
         case measure => simp [intOf]
      ·cases ht : s3.toList.isEmpty with
       | true =>
        have HT := Lib.hid ht
        clear ht
        have ht := HT.out
        go_wp2_with fail
        go_roundw
        case rel => exact ⟨3, by omega, rfl, ⟨hr.out.arr, hr.out.box, hr.out.ad, hr.out.below, (fun _ => hr.out.x1 (by omega)), (fun _ => hr.out.x2 (by omega)), (fun _ => .inl (yD HT.out))⟩⟩
        case measure => simp [intOf]
       | false =>
        go_wp2_with fail
        refine (isAddress_any s3 _ (by omega)).mono ?_
        rintro e w5 ⟨rfl, hb5⟩
        have HR5 := Lib.hid (hr.out.on hb5)
        clear hb5
        cases hi2 : isAddr (bl s3) with
        | false =>
         clear hi2
         go_wp2_with fail
         go_ret
         exact ⟨false, rfl, (fun h => by cases h), HR5.out.below⟩
        | true =>
         have HT := Lib.hid hi2
         clear hi2
         go_wp2_with fail
         go_roundw
         case rel => exact ⟨3, by omega, rfl, ⟨HR5.out.arr, HR5.out.box, HR5.out.ad, HR5.out.below, (fun _ => HR5.out.x1 (by omega)), (fun _ => HR5.out.x2 (by omega)), (fun _ => .inr HT.out)⟩⟩
         case measure => simp [intOf]
      ·have d0 : wr.cell? ⟨w1.heap.size, 0, none⟩ = some _ := cell_of_row wr _ 0 _ _ _ hr.out.ad
       have d1 : wr.cell? ⟨w1.heap.size, 1, none⟩ = some _ := cell_of_row wr _ 1 _ _ _ hr.out.ad
       have b1 : wr.cell? ⟨w.heap.size, 1, none⟩ = some (.string s1) := cell_of_row wr _ 1 _ _ _ hr.out.box
       have b2 : wr.cell? ⟨w.heap.size, 2, none⟩ = some (.string s2) := cell_of_row wr _ 2 _ _ _ hr.out.box
       cases e1 : s1.toList.isEmpty with
       | true =>
        have HE1 := Lib.hid e1
        go_wp2_with fail
        go_ret
        exact ⟨true, rfl, (fun _ => zdD HM.out HAD.out (by rw [H6.out]; exact HFINE.out) (fun h => by rw [H6.out] at h; cases h) (hr.out.x1 (by omega)) (hr.out.x2 (by omega)) (hr.out.x3 (by omega)) (fun _ _ s hs => by rw [zjM (yD HE1.out)] at hs; exact absurd rfl (read_pos hs))), hr.out.below⟩
       | false =>
        cases e2 : s2.toList.isEmpty with
        | false =>
         have HE2 := Lib.hid e2
         go_wp2_with fail
         go_ret
         exact ⟨true, rfl, (fun _ => zdD HM.out HAD.out (by rw [H6.out]; exact HFINE.out) (fun h => by rw [H6.out] at h; cases h) (hr.out.x1 (by omega)) (hr.out.x2 (by omega)) (hr.out.x3 (by omega)) (fun _ h2 => by have h := HE2.out; rw [zfV h2] at h; cases h)), hr.out.below⟩
        | true =>
         have HE2 := Lib.hid e2
         go_wp2_with fail
         refine (read_any s1 _ z1).mono ?_
         rintro e w5 ⟨f, okf, rfl, hf, hfn, hb5⟩
         have HF := Lib.hid hf
         have HR5 := Lib.hid (hr.out.on hb5)
         clear hf hb5 d0 d1 b1 b2 a0 a1 a2
         have d0 : w5.cell? ⟨w1.heap.size, 0, none⟩ = some _ := cell_of_row w5 _ 0 _ _ _ HR5.out.ad
         have d1 : w5.cell? ⟨w1.heap.size, 1, none⟩ = some _ := cell_of_row w5 _ 1 _ _ _ HR5.out.ad
         have hlt5 : w1.heap.size < w5.heap.size := (Array.getElem?_eq_some_iff.1 HR5.out.ad).1
         unfold adv
         have hvle : valL (bl q) ≤ 32 := by rw [HQ.out]; exact (xU HFINE.out).2.2.2
         have hv0 : 0 ≤ valL (bl q) := by rw [HQ.out]; exact valL_nonneg _ (xU HFINE.out).2.1
         obtain ⟨v, hv⟩ : ∃ v : Nat, valL (bl q) = v := ⟨(valL (bl q)).toNat, by omega⟩
         have HVV := Lib.hid hv
         rw [hv]
         rw [hv] at hvle hv0
         have hv32 : v ≤ 32 := by omega
         rw [show (32 : Int) - (v : Int) = ((32 - v : Nat) : Int) by omega]
         obtain ⟨F, hF⟩ : ∃ F : Nat, F = 32 - v := ⟨_, rfl⟩
         have HFV := Lib.hid hF
         have hF32 : F ≤ 32 := by omega
         rw [← hF, show wrap64 ((F : Nat) : Int) = (F : Int) by unfold wrap64; omega]
         clear hv hvle hv0 hF hv32
         cases f6 : f.six with
         | true =>
          have HF6 := Lib.hid f6
          go_wp2_with fail
          go_quiet (fail)
          go_wp2_with fail
          go_ret
          refine ⟨true, rfl, fun hok => zdD HM.out HAD.out (by rw [H6.out]; exact HFINE.out) (fun h => by rw [H6.out] at h; cases h) (hr.out.x1 (by omega)) (hr.out.x2 (by omega)) (hr.out.x3 (by omega)) (fun h6' h2 s hs hal hsl => ?_), below_drewN (HR5.out.below.alloc HR5.out.below.size _) nq⟩
          have hfs : f = s := by
           have h := HF.out
           cases okf with
           | true => rw [if_pos rfl] at h; rw [h] at hs; exact Option.some.inj hs
           | false => rw [if_neg (by decide)] at h; rw [h] at hs; cases hs
          subst hfs
          have h6x := HF6.out
          rw [hsl] at h6x
          exact absurd (h6x.symm.trans h6') (by decide)
         | false =>
          go_wp2_with fail
          have hne : ∀ (w : World) (b b' : Bool) (x y : Int), _ := fun w b b' x y => zaL w b b' x y
          have hge : ∀ (op : BinOp) (x y : Operand) (xs ys : Array Value) (w : World), _ := fun op x y xs ys w => yU op x y xs ys w
          go_quiet (fail)
          go_wp2_with fail
          go_ret
          refine ⟨_, rfl, fun hok => zdD HM.out HAD.out (by rw [H6.out]; exact HFINE.out) (fun h => by rw [H6.out] at h; cases h) (hr.out.x1 (by omega)) (hr.out.x2 (by omega)) (hr.out.x3 (by omega)) (fun _ h2 s hs hal hsl => ?_), below_drewN (HR5.out.below.alloc HR5.out.below.size _) nq⟩
          have hval : (valL (cutL 47 (bl s0)).2.1).toNat = v := by rw [← HQ.out, HVV.out]; simp
          rw [hval, ← HFV.out] at hal hsl
          have hfs : f = s := by
           have h := HF.out
           cases okf with
           | true => rw [if_pos rfl] at h; rw [h] at hs; exact Option.some.inj hs
           | false => rw [if_neg (by decide)] at h; rw [h] at hs; cases hs
          subst hfs
          have hor := zhB a.n F hal hn hF32
          have hfn : (f.n : Int) = ((a.n / 2 ^ F * 2 ^ F + (2 ^ F - 1) : Nat) : Int) := by rw [hsl]; rfl
          rw [hor, ← hfn] at hok
          simp at hok
def zjN (w : World) (s0 s1 s2 s3 : ByteArray) (e : Ending) (w' : World) : Prop :=
 ∃ ok : Bool, e = .returned (.bool ok) ∧ (ok = true → s0.size ≤ 2147483647 ∧ s1.size ≤ 2147483647 ∧ s2.size ≤ 2147483647 ∧ s3.size ≤ 2147483647) ∧ Below w.heap.size w w'
theorem zhD (s0 s1 s2 s3 : ByteArray) (w : World) :
  Calls Tryz.prog 8 #[.agg #[.string s0, .string s1, .string s2, .string s3]] w (zjN w s0 s1 s2 s3) := by
 have HB := Lib.hid ((Below.refl w.heap.size w).alloc (Nat.le_refl _) (.cells #[.string s0, .string s1, .string s2, .string s3] 23))
 by_cases h0 : s0.size ≤ 2147483647
 rotate_left
 ·have t0 : decide ((2147483647 : Int) < s0.size) = true := decide_eq_true (by omega)
  clear h0
  go_enter Tryz.func8, Tryz.ntmps8
  go_wp2_with fail
  go_ret
  exact ⟨false, rfl, (fun h => by cases h), HB.out⟩
 have H0 := Lib.hid h0
 have t0 : decide ((2147483647 : Int) < s0.size) = false := decide_eq_false (by omega)
 by_cases h1 : s1.size ≤ 2147483647
 rotate_left
 ·have t1 : decide ((2147483647 : Int) < s1.size) = true := decide_eq_true (by omega)
  clear h0 h1
  go_enter Tryz.func8, Tryz.ntmps8
  go_wp2_with fail
  go_ret
  exact ⟨false, rfl, (fun h => by cases h), HB.out⟩
 have H1 := Lib.hid h1
 have t1 : decide ((2147483647 : Int) < s1.size) = false := decide_eq_false (by omega)
 by_cases h2 : s2.size ≤ 2147483647
 rotate_left
 ·have t2 : decide ((2147483647 : Int) < s2.size) = true := decide_eq_true (by omega)
  clear h0 h1 h2
  go_enter Tryz.func8, Tryz.ntmps8
  go_wp2_with fail
  go_ret
  exact ⟨false, rfl, (fun h => by cases h), HB.out⟩
 have H2 := Lib.hid h2
 have t2 : decide ((2147483647 : Int) < s2.size) = false := decide_eq_false (by omega)
 by_cases h3 : s3.size ≤ 2147483647
 rotate_left
 ·have t3 : decide ((2147483647 : Int) < s3.size) = true := decide_eq_true (by omega)
  clear h0 h1 h2 h3
  go_enter Tryz.func8, Tryz.ntmps8
  go_wp2_with fail
  go_ret
  exact ⟨false, rfl, (fun h => by cases h), HB.out⟩
 have H3 := Lib.hid h3
 have t3 : decide ((2147483647 : Int) < s3.size) = false := decide_eq_false (by omega)
 clear h0 h1 h2 h3
 go_enter Tryz.func8, Tryz.ntmps8
 go_wp2_with fail
 go_ret
 exact ⟨true, rfl, (fun _ => ⟨H0.out, H1.out, H2.out, H3.out⟩), HB.out⟩
end Go.Proofs.YtnehofekgnbelaaGreatDoor

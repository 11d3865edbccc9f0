/-
  impl.Next, spec.Next, the law FnNext.
-/
import Derived.Test.YtnehofekgnbelaaNext1
import Derived.Test.YtnehofekgnbelaaTried
import Derived.Test.YtnehofekgnbelaaCompare
namespace Go.Proofs.Ytnehofekgnbelaa
open Go.RowKit
set_option linter.unusedVariables false
set_option maxRecDepth 100000
set_option maxHeartbeats 1000000

theorem enters_next (args : Array Value) (w : World) : (callFunc 31 args).run Try.prog w = .ok (.enter 31 args) w := by kernel_rfl

def TryText (w : World) (B C : Nat) (l : List UInt8) (e : Ending) (w' : World) : Prop :=
  e = .returned (.bool true) ∧ ∃ t, bl t = l ∧ w'.cell? ⟨C, 0, none⟩ = some (.string t) ∧ ∀ w0 : World, Below w0.heap.size w0 w → w0.heap.size ≤ B → w0.heap.size ≤ C → Below w0.heap.size w0 w'

theorem triedIn_new (w : World) : (triedIn w).heap[w.heap.size]? = some (.cells #[.bool false] 4 (0, 0)) := heap_alloc_new w _
theorem triedIn_old {w : World} {k : Nat} {o : Obj} (h : w.heap[k]? = some o) : (triedIn w).heap[k]? = some o :=
  (heap_alloc_old w _ (Array.getElem?_eq_some_iff.1 h).1).trans h
theorem triedIn_below (w : World) : Below w.heap.size w (triedIn w) := (Below.refl w.heap.size w).alloc (Nat.le_refl _) _

theorem try_next (A B C : Nat) (s : ByteArray) (a : Ad) (k : Int) (w : World) (hA : w.heap[A]? = some (.cells #[.string s] 9 (0, 0))) (hB : w.heap[B]? = some (.cells #[.int .i64 k] 3 (0, 0)))
    (hC : w.heap[C]? = some (.cells #[.string ⟨#[]⟩] 9 (0, 0))) (hAB : A ≠ B) (hCB : C ≠ B) (ha : readL (bl s) = some a) (hs : s.size ≤ 1000) (k0 : -300 ≤ k) (k1 : k ≤ 300) (h0 : 0 ≤ (a.n : Int) + k) (h1 : (a.n : Int) + k ≤ a.most) :
    Calls Try.prog 30 #[.func (.func 31) #[] #[.pointer (some ⟨A, 0, none⟩), .pointer (some ⟨B, 0, none⟩), .pointer (some ⟨C, 0, none⟩)]] w (TryText w B C (a.plus k).text) := by
  have lB : B < w.heap.size := (Array.getElem?_eq_some_iff.1 hB).1
  have lC : C < w.heap.size := (Array.getElem?_eq_some_iff.1 hC).1
  refine (tried_ok _ _ w (Next1 (triedIn w) B C (a.plus k).text) enters_next (next1_any A B C s a k _ (triedIn_old hA) (triedIn_old hB) (triedIn_old hC) hAB hCB ha hs k0 k1 h0 h1) ?_).mono ?_
  · rintro w' ⟨w1, t, hg, ht, rfl⟩
    rw [Below.heap_setCell _ _ _ _ (by show w.heap.size ≠ C; omega), hg.block _ (by unfold triedIn; simp) (by simp; omega)]
    exact triedIn_new w
  · rintro e w' ⟨rfl, w2, ⟨w1, t, hg, ht, rfl⟩, rfl⟩
    have hCc : w1.cell? ⟨C, 0, none⟩ = some (.string ⟨#[]⟩) := by
      refine hg.cell (cell_of_row _ C 0 _ _ _ (triedIn_old hC)) ?_
      simpa using hCB
    refine ⟨rfl, t, ht, ?_, fun w0 hb b1 b2 => ?_⟩
    · rw [World.cell?_setCell_other _ _ _ _ (by simp; try omega)]
      exact World.cell?_setCell_same _ _ _ hCc
    · have h2 : Below w0.heap.size w0 w1 := (below_tr hb (triedIn_below w)).grown hg (Nat.le_trans hb.size (triedIn_below w).size) (fun j hj => by cases hj; exact b1)
      exact (h2.setCell b2 _).setCell (by have := hb.size; simpa using this) _

theorem three_kept {w w2 : World} {o1 o2 o3 : Obj} (hb : Below (((w.alloc o1).alloc o2).alloc o3).heap.size (((w.alloc o1).alloc o2).alloc o3) w2) :
    w2.heap[w.heap.size]? = some o1 ∧ w2.heap[w.heap.size + 1]? = some o2 ∧ Below w.heap.size w w2 ∧ w.heap.size + 2 < w2.heap.size := by
  have h3 : Below ((w.alloc o1).alloc o2).heap.size ((w.alloc o1).alloc o2) w2 := below_tr ((Below.refl _ _).alloc (Nat.le_refl _) _) hb
  obtain ⟨h1, h2, h4⟩ := two_kept' h3
  exact ⟨h1, h2, h4, by have := hb.size; simp at this; omega⟩

theorem implNext_any (s : ByteArray) (a : Ad) (k : Int) (w : World) (ha : readL (bl s) = some a) (k0 : -300 ≤ k) (k1 : k ≤ 300) (h0 : 0 ≤ (a.n : Int) + k) (h1 : (a.n : Int) + k ≤ a.most) :
    Calls Try.prog 12 #[.string s, .int .i64 k] w (TextPost w (a.plus k).text) := by
  have hnil := fun w a n c => Lib.run_eql_slice_nil (P := Try.prog) w 46 5 a n c 0 0 Try.underlying46
  have hmf : ∀ (fn : Fn) (first cap : Array Value) (w : World), (Instr.makeFunc fn first cap).run Try.prog w = .ok (.func fn first cap) w := fun _ _ _ _ => rfl
  have hs := addr_length ha
  have HL := Lib.hid (longIn_small [s] (by
    intro x hx
    simp only [List.mem_cons, List.not_mem_nil, or_false] at hx
    rcases hx with rfl; omega))
  have HA := Lib.hid (fun w => addressOf_any s a w ha (by omega))
  have HT := Lib.hid (fun A B C w hA hB hC hAB hCB => try_next A B C s a k w hA hB hC hAB hCB ha (by omega) k0 k1 h0 h1)
  have t1 : decide ((300 : Int) < k) = false := decide_eq_false (by omega)
  have t2 : decide (k < (-300 : Int)) = false := decide_eq_false (by omega)
  clear ha h0 h1 k0 k1
  go_enter Try.func12, Try.ntmps12
  go_wp2_with fail
  refine (short_yes _ [s] _ (slat_one_at _ _ _ (by simp)) HL.out).mono ?_
  rintro e w' ⟨rfl, rfl⟩
  go_wp2_with fail
  refine (HA.out _).mono ?_
  rintro e w1 ⟨v1, rfl, hv1, hb1⟩
  have ho := IPAt.out hv1
  rw [Ad.long_length] at ho
  obtain ⟨b1, o1, c1, rfl, _⟩ := ho
  have HB1 := Lib.hid hb1
  clear hv1 hb1
  go_wp2_with fail
  obtain ⟨kA, kB, kw, klt⟩ := three_kept HB1.out
  have HK := Lib.hid kw
  have hT := HT.out w.heap.size (w.heap.size + 1) w1.heap.size (w1.alloc (.cells #[.string ⟨#[]⟩] 9)) ((heap_alloc_old w1 _ (Array.getElem?_eq_some_iff.1 kA).1).trans kA) ((heap_alloc_old w1 _ (Array.getElem?_eq_some_iff.1 kB).1).trans kB) (heap_alloc_new w1 _) (by omega) (by omega)
  have HTT := Lib.hid hT
  clear kA kB kw hT
  refine HTT.out.mono ?_
  rintro e w2 ⟨rfl, t, ht, hc, hbel⟩
  have HB2 := Lib.hid (hbel w (HK.out.alloc HK.out.size _) (by omega) (by omega))
  have HS := Lib.hid ht
  clear ht hbel
  go_wp2_with fail
  go_ret
  exact ⟨t, rfl, HS.out, HB2.out⟩

theorem bits_six (n : Nat) (w : World) :
    Calls Try.prog 28 #[adv ⟨true, n⟩] w (BelowPost w (.tuple #[.int .i64 16, .int .u32 65535])) := by
  unfold adv
  go_enter Try.func28, Try.ntmps28
  go_wp2_with fail
  go_ret2
  exact ⟨rfl, (Below.refl w.heap.size w).alloc (Nat.le_refl _) _⟩
theorem bits_four (n : Nat) (w : World) :
    Calls Try.prog 28 #[adv ⟨false, n⟩] w (BelowPost w (.tuple #[.int .i64 32, .int .u32 4294967295])) := by
  unfold adv
  go_enter Try.func28, Try.ntmps28
  go_wp2_with fail
  go_ret2
  exact ⟨rfl, (Below.refl w.heap.size w).alloc (Nat.le_refl _) _⟩
theorem bits_any (a : Ad) (w : World) :
    Calls Try.prog 28 #[adv a] w (fun e w' => ∃ b : Int, e = .returned (.tuple #[.int .i64 b, .int .u32 a.most]) ∧ Below w.heap.size w w') := by
  obtain ⟨six, n⟩ := a
  cases six with
  | true => exact (bits_six n w).mono fun e w' ⟨he, hb⟩ => ⟨16, he, hb⟩
  | false => exact (bits_four n w).mono fun e w' ⟨he, hb⟩ => ⟨32, he, hb⟩
theorem most_cases (a : Ad) : 65535 ≤ a.most ∧ a.most ≤ 4294967295 := by unfold Ad.most; split <;> omega

/-- What the reference tells: the address so many steps on, where there is one. -/
def SpecNext (w : World) (r : Option Ad) (e : Ending) (w' : World) : Prop :=
  ∃ t, e = .returned (.tuple #[.string t, .bool r.isSome]) ∧ (∀ b, r = some b → bl t = b.text) ∧ Below w.heap.size w w'
def nextR (l : List UInt8) (k : Int) : Option Ad := match readL l with
  | some a => if 0 ≤ (a.n : Int) + k ∧ (a.n : Int) + k ≤ a.most then some (a.plus k) else none
  | none => none

theorem specNext_any (s : ByteArray) (k : Int) (w : World) (hs : s.size ≤ 2147483647) (k0 : -300 ≤ k) (k1 : k ≤ 300) :
    Calls Try.prog 11 #[.string s, .int .i64 k] w (SpecNext w (nextR (bl s) k)) := by
  go_enter Try.func11, Try.ntmps11
  go_wp2_with fail
  refine (read_any s _ hs).mono ?_
  rintro e w1 ⟨a, ok, rfl, ha, hn, hb1⟩
  have HA := Lib.hid ha
  have HB1 := Lib.hid hb1
  clear ha hb1
  unfold adv
  go_wp2_with fail
  have HBI := Lib.hid (fun w => bits_any a w)
  unfold adv at HBI
  refine (HBI.out _).mono ?_
  rintro e w2 ⟨bt, rfl, hb2⟩
  have hk := nz5_old' hb2
  have c0 : w2.cell? ⟨w1.heap.size, 0, none⟩ = some (.bool a.six) := cell_of_row w2 _ 0 _ _ _ hk.1
  have c1 : w2.cell? ⟨w1.heap.size, 1, none⟩ = some (.int .u32 a.n) := cell_of_row w2 _ 1 _ _ _ hk.1
  have HB2 := Lib.hid (below_tr HB1.out hk.2)
  have HMC := Lib.hid (most_cases a)
  clear hk hb2 HBI
  cases ok with
  | false =>
    have HNR := Lib.hid (show nextR (bl s) k = none by
      have h := HA.out
      rw [if_neg (by decide)] at h
      unfold nextR
      rw [h])
    have hm0 := HMC.out.1
    have hm1 := HMC.out.2
    generalize a.most = M at hm0 hm1 ⊢
    go_wp2_with fail
    go_ret2
    exact ⟨⟨#[]⟩, by rw [HNR.out]; rfl, (fun b hb => by rw [HNR.out] at hb; cases hb), HB2.out⟩
  | true =>
    have HRA := Lib.hid (show readL (bl s) = some a by have h := HA.out; rw [if_pos rfl] at h; exact h)
    have hm0 := HMC.out.1
    have hm1 := HMC.out.2
    have HX := Lib.hid (show nextR (bl s) k = if 0 ≤ (a.n : Int) + k ∧ (a.n : Int) + k ≤ a.most then some (a.plus k) else none by
      unfold nextR
      rw [HRA.out])
    generalize a.most = M at hm0 hm1 HX ⊢
    by_cases g0 : 0 ≤ (a.n : Int) + k
    · by_cases g1 : (a.n : Int) + k ≤ M
      · have HNR := Lib.hid (show nextR (bl s) k = some (a.plus k) by rw [HX.out, if_pos ⟨g0, g1⟩])
        have HT := Lib.hid (fun w => text_any (a.plus k) w (by have := plus_n a k g0; omega))
        have e1 : (a.n : Int) + k = ((a.plus k).n : Int) := (plus_n a k g0).symm
        have e2 : (a.plus k).six = a.six := rfl
        have hpn : ((a.plus k).n : Int) ≤ M := by omega
        unfold adv at HT
        rw [e2] at HT
        generalize a.plus k = b at HNR HT e1 hpn
        have t1 : decide (M < ((b.n : Nat) : Int)) = false := decide_eq_false (by omega)
        have HE1 := Lib.hid e1
        clear g0 g1 e2
        go_wp2_with fail
        refine (HT.out _).mono ?_
        rintro e w3 ⟨t, rfl, ht, hb3⟩
        have HS := Lib.hid ht
        have HB3 := Lib.hid (below_tr HB2.out hb3)
        clear ht hb3
        go_wp2_with fail
        go_ret2
        exact ⟨t, by rw [HNR.out]; rfl, (fun b' hb => by rw [HNR.out] at hb; cases hb; exact HS.out), HB3.out⟩
      · have HNR := Lib.hid (show nextR (bl s) k = none by rw [HX.out, if_neg (fun h => g1 h.2)])
        have t1 : decide (M < (a.n : Int) + k) = true := decide_eq_true (by omega)
        have t0 : decide ((a.n : Int) + k < 0) = false := decide_eq_false (by omega)
        go_wp2_with fail
        go_ret2
        exact ⟨⟨#[]⟩, by rw [HNR.out]; rfl, (fun b hb => by rw [HNR.out] at hb; cases hb), HB2.out⟩
    · have HNR := Lib.hid (show nextR (bl s) k = none by rw [HX.out, if_neg (fun h => g0 h.1)])
      have t0 : decide ((a.n : Int) + k < 0) = true := decide_eq_true (by omega)
      go_wp2_with fail
      go_ret2
      exact ⟨⟨#[]⟩, by rw [HNR.out]; rfl, (fun b hb => by rw [HNR.out] at hb; cases hb), HB2.out⟩

theorem nextR_some {l : List UInt8} {k : Int} {b : Ad} (h : nextR l k = some b) : ∃ a, readL l = some a ∧ 0 ≤ (a.n : Int) + k ∧ (a.n : Int) + k ≤ a.most ∧ b = a.plus k := by
  unfold nextR at h
  split at h
  · rename_i a ha
    split at h
    · rename_i hc
      exact ⟨a, ha, hc.1, hc.2, (Option.some.inj h).symm⟩
    · cases h
  · cases h

theorem lawNext (s : ByteArray) (k : Int) (w : World) (hs : s.size ≤ maxLen) :
    Calls Try.prog 4 #[.string s, .int .i64 k] w (LawPost w) := by
  unfold maxLen at hs
  by_cases h1 : s.size ≤ 2147483647
  · have t1 : decide ((2147483647 : Int) < s.size) = false := decide_eq_false (by omega)
    by_cases k0 : -300 ≤ k
    · have t2 : decide (k < (-300 : Int)) = false := decide_eq_false (by omega)
      by_cases k1 : k ≤ 300
      · have t3 : decide ((300 : Int) < k) = false := decide_eq_false (by omega)
        have HS := Lib.hid (fun w => specNext_any s k w h1 k0 k1)
        cases hr : nextR (bl s) k with
        | none =>
          rw [hr] at HS
          clear hr
          go_enter Try.func4, Try.ntmps4
          go_wp2_with fail
          refine (HS.out _).mono ?_
          rintro e w1 ⟨t, rfl, ht, hb1⟩
          have HB1 := Lib.hid hb1
          clear ht hb1
          go_wp2_with fail
          go_ret
          exact ⟨rfl, HB1.out⟩
        | some b =>
          rw [hr] at HS
          obtain ⟨a, ha, g0, g1, rfl⟩ := nextR_some hr
          have HI := Lib.hid (fun w => implNext_any s a k w ha k0 k1 g0 g1)
          clear hr ha g0 g1
          generalize a.plus k = b at HS HI
          go_enter Try.func4, Try.ntmps4
          go_wp2_with fail
          refine (HS.out _).mono ?_
          rintro e w1 ⟨t, rfl, ht, hb1⟩
          have HT := Lib.hid (ht b rfl)
          have HB1 := Lib.hid hb1
          clear ht hb1
          go_wp2_with fail
          refine (HI.out _).mono ?_
          rintro e w2 ⟨t2, rfl, ht2, hb2⟩
          have HB2 := Lib.hid (below_tr HB1.out hb2)
          have he : (t2.toList == t.toList) = true := by
            rw [beq_iff_eq, Lib.toList_data, Lib.toList_data]
            exact ht2.trans HT.out.symm
          clear ht2 hb2
          go_wp2_with fail
          go_ret
          exact ⟨rfl, HB2.out⟩
      · have t3 : decide ((300 : Int) < k) = true := decide_eq_true (by omega)
        go_enter Try.func4, Try.ntmps4
        go_wp2_with fail
        go_ret
        exact ⟨rfl, Below.refl _ _⟩
    · have t2 : decide (k < (-300 : Int)) = true := decide_eq_true (by omega)
      go_enter Try.func4, Try.ntmps4
      go_wp2_with fail
      go_ret
      exact ⟨rfl, Below.refl _ _⟩
  · have t1 : decide ((2147483647 : Int) < s.size) = true := decide_eq_true (by omega)
    go_enter Try.func4, Try.ntmps4
    go_wp2_with fail
    go_ret
    exact ⟨rfl, Below.refl _ _⟩

end Go.Proofs.Ytnehofekgnbelaa

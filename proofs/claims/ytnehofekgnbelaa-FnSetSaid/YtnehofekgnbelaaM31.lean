/-
  Texts put together: SetI, SetW.
-/
import Derived.Test.YtnehofekgnbelaaM25
import Derived.Test.YtnehofekgnbelaaM1
import Derived.Test.YtnehofekgnbelaaM30
import Derived.Test.YtnehofekgnbelaaM28

/-
  impl.setOf, impl.Set.
-/
namespace Go.Proofs.Ytnehofekgnbelaa
open Go.RowKit
set_option linter.unusedVariables false
set_option maxRecDepth 100000
set_option maxHeartbeats 1000000

def isSl (u : Value) : Prop := ∃ b n c, u = .slice b n c
/-- A range's five values. -/
structure El where
  v0 : Value
  v1 : Value
  vi : Value
  vm : Value
  v4 : Value
def El.vals (e : El) : List Value := [e.v0, e.v1, e.vi, e.vm, e.v4]
def flat5 (es : List El) : List Value := es.flatMap El.vals
theorem flat5_at (es : List El) (j c : Nat) (e : El) (h : es[j]? = some e) (hc : c < 5) : (flat5 es)[j * 5 + c]? = e.vals[c]? := by
  induction es generalizing j with
  | nil => cases h
  | cons a es ih =>
    have e' : flat5 (a :: es) = a.vals ++ flat5 es := rfl
    have hl : a.vals.length = 5 := rfl
    cases j with
    | zero =>
      obtain rfl : a = e := by simpa using h
      rw [e', List.getElem?_append_left (by rw [hl]; omega), Nat.zero_mul, Nat.zero_add]
    | succ j =>
      rw [e', List.getElem?_append_right (by rw [hl]; omega), hl, show (j + 1) * 5 + c - 5 = j * 5 + c by omega]
      exact ih j h
def ElAt (w : World) (e : El) (R : RIn) : Prop := OptAt w e.v0 R.o1 ∧ OptAt w e.v1 R.o2 ∧ OptAt w e.v4 R.o3 ∧ LongAt w e.vi R.a ∧ IPAt w e.vm (R.a.mask R.free)
section
variable {w w' : World} {v : Value} {bs : List UInt8} {g : Nat} {o : Option Ad} {R : RIn} {e : El}
theorem IPAt.past (h : IPAt w v bs) (nb : ∀ (j : Nat) (x : UInt8), w.cell? ⟨g, j, none⟩ ≠ some (u8v x)) (hg : w.grownBy w' (some g)) : IPAt w' v bs := by
  obtain ⟨⟨ao, cap, hv, hl, hm, hn, hc⟩, hp⟩ := h
  refine ⟨⟨ao, cap, hv, hl, hm, hn, fun p hpp j u hu => ?_⟩, hp⟩
  have h1 := hc p hpp j u hu
  have hs := spot_none_of_cell h1
  refine hg.cell h1 fun e => ?_
  obtain ⟨x, rfl⟩ : ∃ x : UInt8, u = u8v x := by
    have := List.mem_of_getElem? hu
    simp only [ipv, List.mem_map] at this
    obtain ⟨x, _, rfl⟩ := this
    exact ⟨x, rfl⟩
  have hb : (p.add j).block = g := Option.some.inj e
  refine nb (p.add j).off x ?_
  rw [← h1]
  congr 1
  rw [← hb, ← hs]
theorem OptAt.past (h : OptAt w v o) (nb : ∀ (j : Nat) (x : UInt8), w.cell? ⟨g, j, none⟩ ≠ some (u8v x)) (hg : w.grownBy w' (some g)) : OptAt w' v o := by
  cases o with
  | none => exact h
  | some a => exact h.elim (fun h => .inl (IPAt.past h nb hg)) (fun h => .inr (IPAt.past h nb hg))
theorem ElAt.on (h : ElAt w e R) (hb : Below w.heap.size w w') : ElAt w' e R := ⟨h.1.keep hb, h.2.1.keep hb, h.2.2.1.keep hb, IPAt.keep h.2.2.2.1 hb, IPAt.keep h.2.2.2.2 hb⟩
theorem ElAt.past (h : ElAt w e R) (nb : ∀ (j : Nat) (x : UInt8), w.cell? ⟨g, j, none⟩ ≠ some (u8v x)) (hg : w.grownBy w' (some g)) : ElAt w' e R :=
  ⟨h.1.past nb hg, h.2.1.past nb hg, h.2.2.1.past nb hg, IPAt.past h.2.2.2.1 nb hg, IPAt.past h.2.2.2.2 nb hg⟩
theorem ElAt.set {p : Addr} {z : Value} (h : ElAt w e R) (hp : ∀ x : UInt8, w.cell? p ≠ some (u8v x)) : ElAt (w.setCell p z) e R :=
  ⟨h.1.set hp, h.2.1.set hp, h.2.2.1.set hp, IPAt.set h.2.2.2.1 hp, IPAt.set h.2.2.2.2 hp⟩
theorem ElAt.sl (h : ElAt w e R) : ∀ u ∈ e.vals, isSl u := by
  intro u hu
  simp only [El.vals, List.mem_cons, List.not_mem_nil, or_false] at hu
  rcases hu with rfl | rfl | rfl | rfl | rfl
  · exact h.1.slice
  · exact h.2.1.slice
  · exact slat_slice h.2.2.2.1.1
  · exact slat_slice h.2.2.2.2.1
  · exact h.2.2.1.slice
end
theorem infoRg : (Try.prog.info? 62).map (fun i => (i.zero, i.size, i.bytes)) = some (some (.agg #[.slice none 0 0, .slice none 0 0, .slice none 0 0, .slice none 0 0, .slice none 0 0]), 5, 120) := by kernel_rfl
theorem zero_sl (k : Nat) : ∀ u ∈ (Builtin.zeroCells (Value.agg #[.slice none 0 0, .slice none 0 0, .slice none 0 0, .slice none 0 0, .slice none 0 0]).cells k).toList, isSl u := by
  intro u hu
  unfold Builtin.zeroCells at hu
  simp only [Array.toList_map, List.mem_map] at hu
  obtain ⟨i, _, rfl⟩ := hu
  have hlt : i % 5 < 5 := Nat.mod_lt _ (by decide)
  show isSl (#[Value.slice none 0 0, .slice none 0 0, .slice none 0 0, .slice none 0 0, .slice none 0 0][i % 5]!)
  generalize i % 5 = j at hlt
  obtain rfl | rfl | rfl | rfl | rfl : j = 0 ∨ j = 1 ∨ j = 2 ∨ j = 3 ∨ j = 4 := by omega
  all_goals exact ⟨_, _, _, rfl⟩

/-- The loop: k ranges are in the row. -/
structure OutR (w : World) (Rs : List RIn) (k g cap : Nat) (es : List El) (wr : World) : Prop where
  rowC : wr.heap[w.heap.size + 1]? = some (.cells #[.slice (some ⟨g, 0, none⟩) k cap] 75 (0, 0))
  rowD : wr.heap[w.heap.size + 2]? = some (.cells #[.bool true] 4 (0, 0))
  own : OwnP wr w.heap.size 62 5 isSl g k cap (flat5 es)
  ne1 : g ≠ w.heap.size + 1
  ne2 : g ≠ w.heap.size + 2
  els : ∀ (i : Nat) (R : RIn), i < k → Rs[i]? = some R → ∃ e, es[i]? = some e ∧ ElAt wr e R
  len : es.length = k
  below : Below w.heap.size w wr
section
variable {w wr w1 w2 w' : World} {Rs : List RIn} {k g cap g' cap' : Nat} {es : List El} {R : RIn} {e : El}
theorem OutR.on (h : OutR w Rs k g cap es wr) (hb : Below wr.heap.size wr w2) : OutR w Rs k g cap es w2 :=
  ⟨row_on hb h.rowC, row_on hb h.rowD, h.own.on hb, h.ne1, h.ne2, fun i R hi hr => let ⟨e, h1, h2⟩ := h.els i R hi hr; ⟨e, h1, h2.on hb⟩, h.len, below_tr h.below hb⟩
theorem OutR.nb (h : OutR w Rs k g cap es wr) : ∀ (j : Nat) (x : UInt8), wr.cell? ⟨g, j, none⟩ ≠ some (u8v x) := fun j x hx => by
  obtain ⟨b, n, c, hu⟩ := h.own.kind j _ hx
  simp [u8v] at hu
theorem OutR.next (h : OutR w Rs k g cap es w1) (hR : Rs[k]? = some R) (he : ElAt w1 e R) (hown : OwnP w' w.heap.size 62 5 isSl g' (k + 1) cap' (flat5 es ++ e.vals)) (hg : w1.grownBy w' (some g)) (hgg : g' = g ∨ g' = w1.heap.size) :
    OutR w Rs (k + 1) g' cap' (es ++ [e]) ((w'.setCell ⟨w.heap.size + 1, 0, none⟩ (.slice (some ⟨g', 0, none⟩) (k + 1) cap')).setCell ⟨w.heap.size + 2, 0, none⟩ (.bool true)) := by
  have l1 : w.heap.size + 1 < w1.heap.size := (Array.getElem?_eq_some_iff.1 h.rowC).1
  have l2 : w.heap.size + 2 < w1.heap.size := (Array.getElem?_eq_some_iff.1 h.rowD).1
  have n1 : g' ≠ w.heap.size + 1 := by rcases hgg with rfl | rfl; exact h.ne1; omega
  have n2 : g' ≠ w.heap.size + 2 := by rcases hgg with rfl | rfl; exact h.ne2; omega
  have r1 : w'.heap[w.heap.size + 1]? = some (.cells #[.slice (some ⟨g, 0, none⟩) k cap] 75 (0, 0)) := by
    rw [hg.block _ l1 (by simpa using h.ne1.symm)]; exact h.rowC
  have r2 : w'.heap[w.heap.size + 2]? = some (.cells #[.bool true] 4 (0, 0)) := by
    rw [hg.block _ l2 (by simpa using h.ne2.symm)]; exact h.rowD
  have s1 := heap_setCell_same w' (w.heap.size + 1) 0 _ _ (.slice (some ⟨g', 0, none⟩) (k + 1) cap') r1
  have s2 : (w'.setCell ⟨w.heap.size + 1, 0, none⟩ (.slice (some ⟨g', 0, none⟩) (k + 1) cap')).heap[w.heap.size + 2]? = some (.cells #[.bool true] 4 (0, 0)) :=
    (Below.heap_setCell _ _ _ _ (by show w.heap.size + 2 ≠ w.heap.size + 1; omega)).trans r2
  have s3 := heap_setCell_same _ (w.heap.size + 2) 0 _ _ (.bool true) s2
  have c1 : ∀ x : UInt8, w'.cell? ⟨w.heap.size + 1, 0, none⟩ ≠ some (u8v x) := fun x => by rw [cell_of_row _ _ 0 _ _ _ r1]; simp [u8v]
  have c2 : ∀ x : UInt8, (w'.setCell ⟨w.heap.size + 1, 0, none⟩ (.slice (some ⟨g', 0, none⟩) (k + 1) cap')).cell? ⟨w.heap.size + 2, 0, none⟩ ≠ some (u8v x) := fun x => by rw [cell_of_row _ _ 0 _ _ _ s2]; simp [u8v]
  refine ⟨(Below.heap_setCell _ _ _ _ (by show w.heap.size + 1 ≠ w.heap.size + 2; omega)).trans s1, s3, ?_, n1, n2, fun i Q hi hq => ?_, by simp [h.len], ?_⟩
  · obtain ⟨h1, h2, h3, h4, cur, h5, h6, h7, h8⟩ := hown
    have hf : flat5 (es ++ [e]) = flat5 es ++ e.vals := by unfold flat5; rw [List.flatMap_append]; simp
    rw [hf]
    exact ⟨h1, h2, h3, h4, cur, (Below.heap_setCell _ _ _ _ n2).trans ((Below.heap_setCell _ _ _ _ n1).trans h5), h6, h7, h8⟩
  · by_cases ek : i = k
    · subst ek
      rw [hR] at hq
      cases hq
      exact ⟨e, by rw [List.getElem?_append_right (by rw [h.len]; exact Nat.le_refl _), h.len]; simp, ((he.past h.nb hg).set c1).set c2⟩
    · obtain ⟨a, h1, h2⟩ := h.els i Q (by omega) hq
      exact ⟨a, by rw [List.getElem?_append_left (by rw [h.len]; omega)]; exact h1, ((h2.past h.nb hg).set c1).set c2⟩
  · exact ((h.below.grown hg (by omega) (fun j hj => by cases hj; exact h.own.2.1)).setCell (by show w.heap.size ≤ w.heap.size + 1; omega) _).setCell (by show w.heap.size ≤ w.heap.size + 2; omega) _
theorem OutR.setIn (h : OutR w Rs k g cap es wr) (hk : k = Rs.length) (ok : ∀ (i : Nat) (R : RIn), Rs[i]? = some R → ROk R) : SetIn wr (w.heap.size + 1) g k cap Rs := by
  refine ⟨h.rowC, h.ne1.symm, hk, h.own.2.2.1, h.own.2.2.2.1, ⟨fun j x _ => h.nb j x, h.own.frozen, fun i R _ hr => ?_, fun i R hi => absurd hi (by omega), World.grownBy.refl _ _, h.own.lt⟩, ok⟩
  have hi : i < k := by rw [hk]; exact (List.getElem?_eq_some_iff.1 hr).1
  obtain ⟨e, h1, h2, h3, h4, h5, h6⟩ := h.els i R hi hr
  have hc : ∀ c, c < 5 → wr.cell? ⟨g, i * 5 + c, none⟩ = e.vals[c]? := fun c hc => (h.own.cell (i * 5 + c) (by omega)).trans (flat5_at es i c e h1 hc)
  exact ⟨e.v0, e.v1, e.vi, e.vm, e.v4, ⟨hc 0 (by decide), hc 1 (by decide), hc 2 (by decide), hc 3 (by decide), hc 4 (by decide)⟩, h2, h3, h4, h5, h6⟩
end

end Go.Proofs.Ytnehofekgnbelaa

/-
  impl.setOf, impl.Set.
-/
namespace Go.Proofs.Ytnehofekgnbelaa
open Go.RowKit
set_option linter.unusedVariables false
set_option maxRecDepth 100000
set_option maxHeartbeats 1000000

theorem implSetOf_any (ao : Option Addr) (cap0 : Nat) (xs : List Tx) (Rs : List RIn) (w : World) (h : RgsV w ao xs) (hx : TxAll xs Rs) (h4 : xs.length ≤ 8) :
    Calls Try.prog 43 #[.slice ao xs.length cap0] w (SetPost w (implB Rs)) := by
  have H := Lib.hid h
  have HX := Lib.hid hx
  clear h hx
  obtain ⟨i0, HI', hz⟩ := Option.map_eq_some_iff.1 infoRg
  simp only [Prod.mk.injEq] at hz
  obtain ⟨hz0, hz1, hz2⟩ := hz
  have HI := Lib.hid HI'
  have HZ0 := Lib.hid hz0
  have HZ1 := Lib.hid hz1
  have HZ2 := Lib.hid hz2
  clear HI' hz0 hz1 hz2
  have t8 : decide ((xs.length : Int) ≤ 8) = true := decide_eq_true (by omega)
  go_enter Try.func43, Try.ntmps43
  go_wp2_with fail
  have H0 := Lib.hid (show OutR w Rs 0 w.heap.size 0 [] (((w.alloc (.cells #[] 62)).alloc (.cells #[.slice (some ⟨w.heap.size, 0, none⟩) 0 0] 75)).alloc (.cells #[.bool true] 4)) from by
    have e1 : (w.alloc (.cells #[] 62)).heap.size = w.heap.size + 1 := by simp
    have e2 : ((w.alloc (.cells #[] 62)).alloc (.cells #[.slice (some ⟨w.heap.size, 0, none⟩) 0 0] 75)).heap.size = w.heap.size + 2 := by simp
    have a1 := heap_alloc_new w (.cells #[] 62)
    have a2 := heap_alloc_new (w.alloc (.cells #[] 62)) (.cells #[.slice (some ⟨w.heap.size, 0, none⟩) 0 0] 75)
    have a3 := heap_alloc_new ((w.alloc (.cells #[] 62)).alloc (.cells #[.slice (some ⟨w.heap.size, 0, none⟩) 0 0] 75)) (.cells #[.bool true] 4)
    rw [e1] at a2
    rw [e2] at a3
    refine ⟨(heap_alloc_old _ _ (by simp)).trans a2, a3, ⟨rfl, Nat.le_refl _, Nat.le_refl _, by decide, #[], ?_, rfl, rfl, fun u hu => by cases hu⟩, by omega, by omega, fun i R hi => absurd hi (by omega), rfl, ((((Below.refl _ _).alloc (Nat.le_refl _) _).alloc (by simp) _).alloc (by simp; omega) _)⟩
    exact (heap_alloc_old _ _ (by simp; omega)).trans ((heap_alloc_old _ _ (by simp)).trans a1))
  go_loopw [16] (fun i wr => ∃ k : Nat, i = .int .i64 k ∧ k ≤ xs.length ∧ Hid (∃ g cap es, OutR w Rs k g cap es wr)) (fun i _ => xs.length - (intOf i).toNat)
  case atStart => exact ⟨0, rfl, by omega, Lib.hid ⟨_, _, _, H0.out⟩⟩
  case round =>
    obtain ⟨k, rfl, hk, hr⟩ := hrel
    obtain ⟨g, cap, es, ho⟩ := hr.out
    have HO := Lib.hid ho
    have cC : wr.cell? ⟨w.heap.size + 1, 0, none⟩ = some (.slice (some ⟨g, 0, none⟩) k cap) := cell_of_row wr _ 0 _ _ _ ho.rowC
    have cD : wr.cell? ⟨w.heap.size + 2, 0, none⟩ = some (.bool true) := cell_of_row wr _ 0 _ _ _ ho.rowD
    have lC : w.heap.size + 2 < wr.heap.size := (Array.getElem?_eq_some_iff.1 ho.rowD).1
    have hrD := ho.rowD
    have HRD := Lib.hid hrD
    clear ho hr hrD
    by_cases hlt : k < xs.length
    rotate_left
    · have tk : decide ((k : Int) < xs.length) = false := decide_eq_false (by omega)
      have hIn : SetIn wr (w.heap.size + 1) g k cap Rs := HO.out.setIn (by have := HX.out.1; omega) (fun i R hr => by
        have hi : i < xs.length := by have := (List.getElem?_eq_some_iff.1 hr).1; have := HX.out.1; omega
        obtain ⟨S, h1, h2⟩ := HX.out.2 i (xs[i]'hi) (List.getElem?_eq_getElem hi)
        rw [hr] at h1; cases h1; exact h2.2.1)
      have HT := Lib.hid (fun n => trySet_any (w.heap.size + 1) g k cap (w.heap.size + 2) Rs (wr.drewN n) (hIn.on (below_drewN (Below.refl _ _) n)) HRD.out HO.out.ne2.symm (by omega))
      clear hIn
      go_wp2_with fail
      have hmf : ∀ (fn : Fn) (first cap : Array Value) (w : World), (Instr.makeFunc fn first cap).run Try.prog w = .ok (.func fn first cap) w := fun _ _ _ _ => rfl
      refine wp_region_held_drew (S := (fun w' => w'.cell? ⟨w.heap.size + 1, 0, none⟩ = some (.slice (some ⟨g, 0, none⟩) k cap))) (by kernel_rfl) ?_ (fun hHeld => ?_)
      · go_keep
      refine take_at 0 33 ?v0x1 (by rfl) (by kernel_rfl) (by kernel_rfl) (by kernel_rfl) (by kernel_rfl) (fun _ _ _ _ h => h) (by kernel_rfl) ?hy0x1 (by assumption) ?nx0x1
      case hy0x1 =>
        intro w' hSw
        go_simp
        try with_reducible rfl
      simp only [List.setIfInBounds_toArray, List.set_cons_zero, List.set_cons_succ]
      refine wpAnyH_ready (rs := [1]) (by kernel_rfl) (by simp) (AllReadyH.cons (o := _) rfl (fun K hK => ?_) AllReadyH.nil)
      go_simp
      refine hK.out _ _ ?_ (fun hHeld => ?_)
      · assumption
      clear hK K
      try simp only [Act.put, List.setIfInBounds_toArray, List.set_cons_zero, List.set_cons_succ]
      refine take_at 2 35 ?v2x2 (by rfl) (by kernel_rfl) (by kernel_rfl) (by kernel_rfl) (by kernel_rfl) (fun _ _ _ _ h => h) (by kernel_rfl) ?hy2x2 (by assumption) ?nx2x2
      case hy2x2 =>
        intro w' hSw
        go_simp
        try with_reducible rfl
      simp only [List.setIfInBounds_toArray, List.set_cons_zero, List.set_cons_succ]
      refine take_at 3 36 ?v3x3 (by rfl) (by kernel_rfl) (by kernel_rfl) (by kernel_rfl) (by kernel_rfl) (fun _ _ _ _ h => h) (by kernel_rfl) ?hy3x3 (by assumption) ?nx3x3
      case hy3x3 =>
        intro w' hSw
        go_simp
        try with_reducible rfl
      simp only [List.setIfInBounds_toArray, List.set_cons_zero, List.set_cons_succ]
      refine wpAnyH_ready (rs := [4]) (by kernel_rfl) (by simp) (AllReadyH.cons (o := _) rfl (fun K hK => ?_) AllReadyH.nil)
      go_simp
      go_at_call 30
      refine (HT.out _).mono ?_
      rintro e w2 ⟨rfl, cD2, cC2, hbel⟩
      have HB2 := Lib.hid (hbel w (below_drewN HO.out.below _) HO.out.own.2.1 (by omega))
      clear hbel
      refine hK.out _ _ ?_ (fun hHeld => ?_)
      · exact cC2
      clear hK K
      try simp only [Act.put, List.setIfInBounds_toArray, List.set_cons_zero, List.set_cons_succ]
      refine take_at 5 38 ?v5x4 (by rfl) (by kernel_rfl) (by kernel_rfl) (by kernel_rfl) (by kernel_rfl) (fun _ _ _ _ h => h) (by kernel_rfl) ?hy5x4 (by assumption) ?nx5x4
      case hy5x4 =>
        intro w' hSw
        go_simp
        try with_reducible rfl
      simp only [List.setIfInBounds_toArray, List.set_cons_zero, List.set_cons_succ]
      refine take_at 6 39 ?v6x5 (by rfl) (by kernel_rfl) (by kernel_rfl) (by kernel_rfl) (by kernel_rfl) (fun _ _ _ _ h => h) (by kernel_rfl) ?hy6x5 (by assumption) ?nx6x5
      case hy6x5 =>
        intro w' hSw
        go_simp
        try with_reducible rfl
      simp only [List.setIfInBounds_toArray, List.set_cons_zero, List.set_cons_succ]
      refine take_at 9 2 ?v9x6 (by rfl) (by kernel_rfl) (by kernel_rfl) (by kernel_rfl) (by kernel_rfl) (fun _ _ _ _ h => h) (by kernel_rfl) ?hy9x6 (by assumption) ?nx9x6
      case hy9x6 =>
        intro w' hSw
        go_simp
        try with_reducible rfl
      simp only [List.setIfInBounds_toArray, List.set_cons_zero, List.set_cons_succ]
      refine wpAnyH_ready (rs := [7]) (by kernel_rfl) (by simp) (AllReadyH.cons (o := _) rfl (fun K hK => ?_) AllReadyH.nil)
      go_simp
      refine hK.out _ _ ?_ (fun hHeld => ?_)
      · assumption
      clear hK K
      try simp only [Act.put, List.setIfInBounds_toArray, List.set_cons_zero, List.set_cons_succ]
      refine take_at 8 41 ?v8x7 (by rfl) (by kernel_rfl) (by kernel_rfl) (by kernel_rfl) (by kernel_rfl) (fun _ _ _ _ h => h) (by kernel_rfl) ?hy8x7 (by assumption) ?nx8x7
      case hy8x7 =>
        intro w' hSw
        go_simp
        try with_reducible rfl
      simp only [List.setIfInBounds_toArray, List.set_cons_zero, List.set_cons_succ]
      refine take_at 10 3 ?v10x8 (by rfl) (by kernel_rfl) (by kernel_rfl) (by kernel_rfl) (by kernel_rfl) (fun _ _ _ _ h => h) (by kernel_rfl) ?hy10x8 (by assumption) ?nx10x8
      case hy10x8 =>
        intro w' hSw
        go_simp
        try with_reducible rfl
      simp only [List.setIfInBounds_toArray, List.set_cons_zero, List.set_cons_succ]
      refine wpAnyH_done (by kernel_rfl) ?_ _
      go_wp
      go_ret2
      exact ⟨_, rfl, HB2.out⟩
    have tk : decide ((k : Int) < xs.length) = true := decide_eq_true (by omega)
    have hx : xs[k]? = some xs[k] := List.getElem?_eq_getElem hlt
    obtain ⟨R, hR, htx⟩ := HX.out.2 k _ hx
    obtain ⟨b, off, rfl, hbl, c0, c1, c2, c3⟩ := H.out.on HO.out.below k _ hx
    clear hx
    generalize xs[k] = x at *
    have HR := Lib.hid hR
    have HS := Lib.hid (fun w => rangeOf_any x.a x.b x.c x.d R w htx.1)
    clear hR htx
    go_wp2_with fail
    refine (HS.out _).mono ?_
    rintro e w2 ⟨v0, v1, vi, vm, v4, rfl, h0, h1, h4', hi, hm, hb2⟩
    have HO2 := Lib.hid (HO.out.on (below_tr ((Below.refl wr.heap.size wr).alloc (Nat.le_refl _) _) hb2))
    have HE := Lib.hid (show ElAt w2 ⟨v0, v1, vi, vm, v4⟩ R from ⟨h0, h1, h4', hi, hm⟩)
    obtain ⟨bs, ns, ks, rfl⟩ := h0.slice
    obtain ⟨be, ne, ke, rfl⟩ := h1.slice
    obtain ⟨bg, ng, kg, rfl⟩ := h4'.slice
    obtain ⟨bi, oi, ki, rfl, _⟩ := IPAt.out hi
    obtain ⟨bm, om, km, rfl, _⟩ := IPAt.out hm
    have e0 : w2.cell? ⟨w.heap.size + 1, 0, none⟩ = some (.slice (some ⟨g, 0, none⟩) k cap) := cell_of_row w2 _ 0 _ _ _ HO2.out.rowC
    have e1 : w2.cell? ⟨w.heap.size + 2, 0, none⟩ = some (.bool true) := cell_of_row w2 _ 0 _ _ _ HO2.out.rowD
    have lC2 : w.heap.size + 2 < w2.heap.size := (Array.getElem?_eq_some_iff.1 HO2.out.rowD).1
    have lC1 : w.heap.size + 1 < w2.heap.size := by omega
    clear h0 h1 h4' hi hm hb2 c0 c1 c2 c3 HS cC cD
    have hbA : Below w2.heap.size w2 ((w2.alloc (.cells #[.slice bs ns ks, .slice be ne ke, .slice (some ⟨bi, oi, none⟩) R.a.long.length ki, .slice (some ⟨bm, om, none⟩) (R.a.mask R.free).length km, .slice bg ng kg] 62)).alloc (.cells #[.slice bs ns ks, .slice be ne ke, .slice (some ⟨bi, oi, none⟩) R.a.long.length ki, .slice (some ⟨bm, om, none⟩) (R.a.mask R.free).length km, .slice bg ng kg] 62)) := ((Below.refl _ _).alloc (Nat.le_refl _) _).alloc (by simp) _
    have hnew := heap_alloc_new (w2.alloc (.cells #[.slice bs ns ks, .slice be ne ke, .slice (some ⟨bi, oi, none⟩) R.a.long.length ki, .slice (some ⟨bm, om, none⟩) (R.a.mask R.free).length km, .slice bg ng kg] 62)) (.cells #[.slice bs ns ks, .slice be ne ke, .slice (some ⟨bi, oi, none⟩) R.a.long.length ki, .slice (some ⟨bm, om, none⟩) (R.a.mask R.free).length km, .slice bg ng kg] 62)
    rw [show (w2.alloc (.cells #[.slice bs ns ks, .slice be ne ke, .slice (some ⟨bi, oi, none⟩) R.a.long.length ki, .slice (some ⟨bm, om, none⟩) (R.a.mask R.free).length km, .slice bg ng kg] 62)).heap.size = w2.heap.size + 1 by simp] at hnew
    have HNEW := Lib.hid (show ∀ (j : Nat) (u : Value), (El.vals ⟨.slice bs ns ks, .slice be ne ke, .slice (some ⟨bi, oi, none⟩) R.a.long.length ki, .slice (some ⟨bm, om, none⟩) (R.a.mask R.free).length km, .slice bg ng kg⟩)[j]? = some u → ((w2.alloc (.cells #[.slice bs ns ks, .slice be ne ke, .slice (some ⟨bi, oi, none⟩) R.a.long.length ki, .slice (some ⟨bm, om, none⟩) (R.a.mask R.free).length km, .slice bg ng kg] 62)).alloc (.cells #[.slice bs ns ks, .slice be ne ke, .slice (some ⟨bi, oi, none⟩) R.a.long.length ki, .slice (some ⟨bm, om, none⟩) (R.a.mask R.free).length km, .slice bg ng kg] 62)).cell? ((⟨w2.heap.size + 1, 0, none⟩ : Addr).add j) = some u from fun j u hu => by
      rw [Addr.add_lit, Nat.zero_add, cell_of_row _ _ j _ _ _ hnew, ← hu, List.getElem?_toArray]
      rfl)
    have HOA := Lib.hid (HO2.out.on hbA)
    have HEA := Lib.hid (HE.out.on hbA)
    clear hbA hnew
    go_wp2_with (focus (at_builtin; go_must (refine wpList_append_p _ rfl _ _ 75 rfl w.heap.size 62 i0 (.agg #[.slice none 0 0, .slice none 0 0, .slice none 0 0, .slice none 0 0, .slice none 0 0]) 5 120 isSl Try.underlying75 HI.out HZ0.out HZ1.out HZ2.out (by rfl) (by decide) zero_sl g k cap (flat5 es) rfl HOA.out.own ⟨w2.heap.size + 1, 0, none⟩ 1 1 _ rfl rfl HNEW.out (fun u hu => by obtain ⟨b, n, c, rfl⟩ := HEA.out.sl u hu; rfl) HEA.out.sl (by unfold maxLen; omega) (by omega) (by have := HOA.out.below.size; exact this) ?_)))
    intro g' cap' w3 hown hg hgg
    have HN := Lib.hid (HOA.out.next HR.out HEA.out hown hg (by simpa using hgg))
    have q1 : w3.heap[w.heap.size + 1]? = some (.cells #[.slice (some ⟨g, 0, none⟩) k cap] 75 (0, 0)) := by
      rw [hg.block _ (by simp; omega) (by simpa using HOA.out.ne1.symm)]; exact HOA.out.rowC
    have q2 : w3.heap[w.heap.size + 2]? = some (.cells #[.bool true] 4 (0, 0)) := by
      rw [hg.block _ (by simp; omega) (by simpa using HOA.out.ne2.symm)]; exact HOA.out.rowD
    have a1 := cell_of_row w3 _ 0 _ _ _ q1
    have a2 := cell_of_row w3 _ 0 _ _ _ q2
    have a3 := frozen_of_row w3 _ 0 _ _ q1
    have a4 := frozen_of_row w3 _ 0 _ _ q2
    clear hown hg hgg q1 q2 e0 e1
    go_wp2_with fail
    go_roundw
    case rel => exact ⟨k + 1, by simp, by omega, Lib.hid ⟨_, _, _, HN.out⟩⟩
    case measure => simp [intOf]; omega

theorem implSet_any (ao : Option Addr) (cap0 : Nat) (xs : List Tx) (Rs : List RIn) (w : World) (h : RgsV w ao xs) (hx : TxAll xs Rs) (h4 : xs.length ≤ 8) :
    Calls Try.prog 22 #[.slice ao xs.length cap0] w (BelowPost w (.bool (implB Rs))) := by
  have HS := Lib.hid (implSetOf_any ao cap0 xs Rs w h hx h4)
  clear h hx
  go_enter Try.func22, Try.ntmps22
  go_wp2_with fail
  refine HS.out.mono ?_
  rintro e w1 ⟨v, rfl, hb⟩
  have HB := Lib.hid hb
  clear hb
  go_wp2_with fail
  go_ret
  exact ⟨rfl, HB.out⟩

end Go.Proofs.Ytnehofekgnbelaa

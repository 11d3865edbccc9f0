/-
  netip.AddrFrom16.
-/
import Derived.Test.YtnehofekgnbelaaPAddr
import Derived.Laws.Bits64b
namespace Go.Proofs.Ytnehofekgnbelaa
open Go.RowKit
set_option linter.unusedVariables false
set_option maxRecDepth 100000
set_option maxHeartbeats 1000000

/-- The sixteen cells of an address that begins with 2001:db8::. -/
def c16 (x y : Nat) : Array Value := #[.int .u8 32, .int .u8 1, .int .u8 13, .int .u8 184, .int .u8 0, .int .u8 0, .int .u8 0, .int .u8 0, .int .u8 0, .int .u8 0, .int .u8 0, .int .u8 0, .int .u8 0, .int .u8 0, .int .u8 x, .int .u8 y]

theorem ip_of_row {w : World} {B : Nat} {T : TypeId} {cs : Array Value} (h : w.heap[B]? = some (.cells cs T (0, 0))) (off n cap : Nat) (bs : List UInt8) (hl : bs.length = n) (h0 : 0 < n) (hn : n ≤ cap) (hm : cap ≤ 1000)
    (hc : ∀ i : Nat, i < n → cs[off + i]? = some (.int .u8 (bs.getD i 0).toNat)) : IPAt w (.slice (some ⟨B, off, none⟩) n cap) bs := by
  subst hl
  exact IPAt.mk h0 hn (by omega) fun i hi => by rw [cell_of_row w B (off + i) cs T (0, 0) h]; exact hc i hi

def Kept16 (w : World) (x y : Nat) (w' : World) : Prop :=
  w'.heap[w.heap.size]? = some (.cells (c16 x y) 99 (0, 0)) ∧ w'.heap[w.heap.size + 1]? = some (.cells nz5 113 (0, 0)) ∧ Below w.heap.size w w'
theorem kept16_start (w : World) (x y : Nat) : Kept16 w x y ((w.alloc (.cells (c16 x y) 99)).alloc (.cells nz5 113)).drew := two_kept (Below.refl _ _)
theorem kept16_on {w w1 w2 : World} {x y : Nat} (h : Kept16 w x y w1) (hb : Below w1.heap.size w1 w2) : Kept16 w x y w2 := by
  obtain ⟨h1, h2, h3⟩ := h
  have hl : ∀ k o, w1.heap[k]? = some o → w2.heap[k]? = some o := fun k o ho => by
    rw [hb.block k (by have := (Array.getElem?_eq_some_iff.1 ho).1; exact this)]; exact ho
  exact ⟨hl _ _ h1, hl _ _ h2, below_tr h3 hb⟩
theorem kept16_lo {w w1 : World} {x y : Nat} (h : Kept16 w x y w1) : IPAt w1 (.slice (some ⟨w.heap.size, 0, none⟩) 8 16) [32, 1, 13, 184, 0, 0, 0, 0] := by
  refine ip_of_row h.1 0 8 16 _ rfl (by omega) (by omega) (by omega) fun i hi => ?_
  obtain rfl | rfl | rfl | rfl | rfl | rfl | rfl | rfl : i = 0 ∨ i = 1 ∨ i = 2 ∨ i = 3 ∨ i = 4 ∨ i = 5 ∨ i = 6 ∨ i = 7 := by omega
  all_goals rfl
theorem kept16_hi {w w1 : World} {x y : Nat} (h : Kept16 w x y w1) (hx : x ≤ 255) (hy : y ≤ 255) : IPAt w1 (.slice (some ⟨w.heap.size, 8, none⟩) 8 8) [0, 0, 0, 0, 0, 0, UInt8.ofNat x, UInt8.ofNat y] := by
  refine ip_of_row h.1 8 8 8 _ rfl (by omega) (by omega) (by omega) fun i hi => ?_
  have e1 : (UInt8.ofNat x).toNat = x := by simp; omega
  have e2 : (UInt8.ofNat y).toNat = y := by simp; omega
  obtain rfl | rfl | rfl | rfl | rfl | rfl | rfl | rfl : i = 0 ∨ i = 1 ∨ i = 2 ∨ i = 3 ∨ i = 4 ∨ i = 5 ∨ i = 6 ∨ i = 7 := by omega
  case inr.inr.inr.inr.inr.inr.inl => simp [c16, e1]
  case inr.inr.inr.inr.inr.inr.inr => simp [c16, e2]
  all_goals rfl
theorem be_lo (w : World) (B : Nat) (h : IPAt w (.slice (some ⟨B, 0, none⟩) 8 16) [32, 1, 13, 184, 0, 0, 0, 0]) :
    Calls Try.prog 105 #[.slice (some ⟨B, 0, none⟩) 8 16] w (fun e w' => e = .returned (.int .u64 2306139568115548160) ∧ w = w') := beUint64_any B 0 16 _ w h
theorem be_hi (w : World) (B x y : Nat) (hx : x ≤ 255) (hy : y ≤ 255) (h : IPAt w (.slice (some ⟨B, 8, none⟩) 8 8) [0, 0, 0, 0, 0, 0, UInt8.ofNat x, UInt8.ofNat y]) :
    Calls Try.prog 105 #[.slice (some ⟨B, 8, none⟩) 8 8] w (fun e w' => e = .returned (.int .u64 ((x * 256 + y : Nat) : Int)) ∧ w = w') := by
  have h1 := beUint64_any B 8 8 _ w h
  have e : val [0, 0, 0, 0, 0, 0, UInt8.ofNat x, UInt8.ofNat y] = x * 256 + y := by
    have e1 : (UInt8.ofNat x).toNat = x := by simp; omega
    have e2 : (UInt8.ofNat y).toNat = y := by simp; omega
    simp only [val, List.foldl, e1, e2]
    simp
  rw [e] at h1
  exact h1

theorem addrFrom16_any (x y : Nat) (w : World) (hx : x ≤ 255) (hy : y ≤ 255) :
    Calls Try.prog 90 #[.agg (c16 x y)] w (BelowPost w (naddr 2306139568115548160 (x * 256 + y) true)) := by
  have HB0 := Lib.hid (fun w B => be_lo w B)
  have HB1 := Lib.hid (fun w B h => be_hi w B x y hx hy h)
  have HK0 := Lib.hid (kept16_start w x y)
  have HK1 := Lib.hid (fun w1 (h : Kept16 w x y w1) => kept16_hi h hx hy)
  obtain ⟨lo, hlo⟩ : ∃ lo, lo = x * 256 + y := ⟨_, rfl⟩
  rw [← hlo] at HB1 ⊢
  clear hlo hx hy
  unfold c16 nz5 at HK0
  unfold c16
  go_enter Try.func90, Try.ntmps90
  go_wp2_with fail
  go_region_held3 (fun _ => True) (exact trivial) (first | (go_at_call 106; refine (z6noz_any _).mono ?_; rintro e w2 ⟨rfl, hb⟩; unfold detail; have hk := two_kept hb; obtain ⟨q0, q1, q2, q3, q4, f0, f1, f2, f3, f4⟩ := nz5_facts hk.2.1; have HB := Lib.hid hk.2.2; clear hk hb) | (revert mk1; intro mk1; go_at_call 105; refine (HB1.out _ _ (HK1.out _ HK0.out)).mono ?_; rintro e w' ⟨rfl, rfl⟩) | (go_at_call 105; refine (HB0.out _ _ (kept16_lo HK0.out)).mono ?_; rintro e w' ⟨rfl, rfl⟩; have mk1 : True := trivial))
  go_wp2_with fail
  exact bodyPost_ret (v := naddr 2306139568115548160 lo true) (by simp [results, Try.results90, go_sem, naddr, q0, q1, q2, q3, q4]) rfl ⟨rfl, below_set5 HB.out (by omega) _ _ _ _ _⟩

end Go.Proofs.Ytnehofekgnbelaa

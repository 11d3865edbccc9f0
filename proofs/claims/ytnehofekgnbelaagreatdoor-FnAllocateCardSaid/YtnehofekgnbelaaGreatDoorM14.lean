/-
  Texts put together: Buf.
-/
import Derived.Test.YtnehofekgnbelaaGreatDoorM2
import Derived.Test.YtnehofekgnbelaaGreatDoorM5
import Derived.Maps.Range

/-
  Bytes that are appended to a row of the call's own: appendDecimal, appendHex.
-/
namespace Go.Proofs.YtnehofekgnbelaaGreatDoor
open Go.RowKit
set_option linter.unusedVariables false
set_option maxRecDepth 100000
set_option maxHeartbeats 1000000

/-- The slice owns a row that holds these bytes, in a block from 'base' on. -/
def Buf (w : World) (base : Nat) (v : Value) (l : List UInt8) : Prop := w.ownsRow base 5 1 v l.length (ipv l)
/-- From w to w' but the row of v has turned, and what is new; v' owns that row or a new one. -/
structure Grown (w : World) (v : Value) (w' : World) (v' : Value) : Prop where
  by_ : w.grownBy w' v.ownBlock
  own : ∀ g, v'.ownBlock = some g → v.ownBlock = some g ∨ w.heap.size ≤ g

theorem Grown.refl (w : World) (v : Value) : Grown w v w v := ⟨World.grownBy.refl w _, fun g h => .inl h⟩
theorem Grown.alloc {w w' : World} {v v' : Value} (h : Grown w v w' v') (o : Obj) : Grown w v (w'.alloc o) v' :=
  ⟨h.by_.andThen (World.grownBy_alloc w' o none) (fun j hj => by cases hj), h.own⟩
theorem Grown.on {w w1 w2 : World} {v v1 : Value} (h : Grown w v w1 v1) (hb : Below w1.heap.size w1 w2) : Grown w v w2 v1 :=
  ⟨h.by_.andThen (row' := none) ⟨hb.os, hb.tape, hb.output, hb.size, fun k hk _ => hb.block k hk⟩ (fun j hj => by cases hj), h.own⟩
theorem Grown.trans {w w1 w2 : World} {v v1 v2 : Value} (h : Grown w v w1 v1) (k : Grown w1 v1 w2 v2) : Grown w v w2 v2 := by
  refine ⟨h.by_.andThen k.by_ fun j hj => ?_, fun g hg => ?_⟩
  · rcases h.own j hj with h1 | h1
    · exact .inr h1
    · exact .inl h1
  · rcases k.own g hg with h1 | h1
    · exact h.own g h1
    · exact .inr (Nat.le_trans h.by_.size h1)
theorem Grown.before {w w' : World} {v v' : Value} {o : Obj} (h : Grown (w.alloc o) v w' v') : Grown w v w' v' :=
  ⟨(World.grownBy_alloc w o v.ownBlock).andThen h.by_ (fun j hj => .inr hj), fun g hg => by
    rcases h.own g hg with h1 | h1
    · exact .inl h1
    · right; simp at h1; omega⟩
theorem Buf.lt {w : World} {base : Nat} {v : Value} {l : List UInt8} (h : Buf w base v l) : ∀ k, v.ownBlock = some k → base ≤ k ∧ k < w.heap.size := World.ownsRow.lt h
theorem Grown.below {w w' : World} {v v' : Value} {base : Nat} {l : List UInt8} (h : Grown w v w' v') (hB : Buf w base v l) (hb : base ≤ w.heap.size) : Below base w w' :=
  ⟨h.by_.os, h.by_.tape, h.by_.output, h.by_.size, fun k hk => h.by_.block k (by omega) (fun e => by have := hB.lt k e.symm; omega)⟩
/-- A block that is not the row's stays. -/
theorem Grown.kept {w w' : World} {v v' : Value} {k : Nat} {o : Obj} (h : Grown w v w' v') (hk : w.heap[k]? = some o) (hne : v.ownBlock ≠ some k) : w'.heap[k]? = some o := by
  rw [h.by_.block k (Array.getElem?_eq_some_iff.1 hk).1 (fun e => hne e.symm)]
  exact hk
theorem Buf.alloc {w : World} {base : Nat} {v : Value} {l : List UInt8} (h : Buf w base v l) (o : Obj) : Buf (w.alloc o) base v l := World.ownsRow.alloc h o
theorem Buf.keep {w w' : World} {base : Nat} {v : Value} {l : List UInt8} (h : Buf w base v l) (hb : Below w.heap.size w w') : Buf w' base v l :=
  World.ownsRow.kept (row := none) h ⟨hb.os, hb.tape, hb.output, hb.size, fun k hk _ => hb.block k hk⟩ (by cases hv : v.ownBlock <;> simp)

def BufPost (w : World) (base : Nat) (v : Value) (l m : List UInt8) (e : Ending) (w' : World) : Prop := ∃ v', e = .returned v' ∧ Buf w' base v' (l ++ m) ∧ Grown w v w' v'

theorem infoU8 : (Tryz.prog.info? 5).map (fun i => (i.zero, i.size, i.bytes)) = some (some (.int .u8 0), 1, 1) := by kernel_rfl

theorem buf_append {ops : Array Oper} {rest : List Oper} {o : Oper} {a : Act} {Q : Exit → Act → World → Prop} (w : World) (hgd : o.guard = none) (s x : Operand)
    (ho : o.op = .call { callee := .builtin .append, args := #[s, x], argTypes := #[43, 43] })
    (base : Nat) (v : Value) (l : List UInt8) (hs : a.eval s = v) (hB : Buf w base v l) (sv : Value) (m : List UInt8) (hx : a.eval x = sv) (hsl : SlAt w sv (ipv m)) (hm : 0 < m.length)
    (hlen : l.length + m.length ≤ 1000000) (hbase : base ≤ w.heap.size)
    (h : ∀ v' w', Buf w' base v' (l ++ m) → Grown w v w' v' → wpList Tryz.prog ops Q rest (a.put o.dst v') w') : wpList Tryz.prog ops Q (o :: rest) a w := by
  obtain ⟨i0, hi, hz0, hz1, hz2⟩ := info_parts infoU8
  refine wpList_append_slg w hgd s x 43 ho base 5 i0 (.int .u8 0) 1 Tryz.underlying43 hi hz0 hz1 hz2 (by rfl) v l.length (ipv l) hs hB sv (ipv m) hx hsl (ipv_one _) (by rw [ipv_length]; exact hm)
    (by rw [ipv_length]; unfold maxLen; omega) (by rw [ipv_length]; omega) hbase ?_
  intro v' w' h1 h2 h3
  refine h v' w' ?_ ⟨h2, fun g hg => ?_⟩
  · unfold Buf
    rw [ipv_length] at h1
    rw [List.length_append, show ipv (l ++ m) = ipv l ++ ipv m by simp [ipv]]
    exact h1
  · rcases h3 g hg with h4 | h4
    · exact .inl h4
    · exact .inr (by omega)

theorem slat_byte (W : World) (b : Nat) (x : UInt8) (hb : W.heap.size = b) : SlAt (W.alloc (.cells #[.int .u8 x.toNat] 5)) (.slice (some ⟨b, 0, none⟩) 1 1) (ipv [x]) := by
  subst hb
  exact SlAt.mk (xs := ipv [x]) (by simp [ipv]) (by unfold maxLen; simp) fun i hi => by
    have : i = 0 := by simp [ipv] at hi; omega
    subst this
    simp [ipv, u8v, go_sem]

theorem hexDig_dec (d : Nat) (h : d < 10) : UInt8.ofNat (48 + d) = hexDig d := by unfold hexDig; rw [if_pos h]
theorem dec1 (x : Nat) (h : x < 10) : decL x = [hexDig x] := by rw [decL_small (by omega), hexDig_dec _ (Nat.mod_lt _ (by decide)), Nat.mod_eq_of_lt h]
theorem dec2 (x : Nat) (h : ¬ x < 10) (h2 : x < 100) : decL x = [hexDig (x / 10), hexDig (x % 10)] := by
  rw [decL_of (by omega), dec1 (x / 10) (by omega), hexDig_dec _ (Nat.mod_lt _ (by decide))]; rfl
theorem dec3 (x : Nat) (h : ¬ x < 100) (h2 : x < 1000) : decL x = [hexDig (x / 100), hexDig (x / 10 % 10), hexDig (x % 10)] := by
  rw [decL_of (by omega), dec2 (x / 10) (by omega) (by omega), hexDig_dec _ (Nat.mod_lt _ (by decide)), Nat.div_div_eq_div_mul]; rfl

theorem buf_end {w w' : World} {base : Nat} {v v' : Value} {l m m' : List UInt8} (h : Buf w' base v' m') (hm : m' = l ++ m) (hg : Grown w v w' v') : BufPost w base v l m (.returned v') w' :=
  ⟨v', rfl, hm ▸ h, hg⟩

theorem appendDecimal_any (x : Nat) (base : Nat) (v : Value) (l : List UInt8) (w : World) (hx : x ≤ 255) (hB : Buf w base v l) (hb : base ≤ w.heap.size) (hl : l.length ≤ 1000) :
    Calls Tryz.prog 164 #[v, .int .u8 x] w (BufPost w base v l (decL x)) := by
  have HB := Lib.hid hB
  clear hB
  obtain ⟨d1, hd1⟩ : ∃ d, d = x / 100 := ⟨_, rfl⟩
  obtain ⟨d2, hd2⟩ : ∃ d, d = x / 10 % 10 := ⟨_, rfl⟩
  obtain ⟨d3, hd3⟩ : ∃ d, d = x % 10 := ⟨_, rfl⟩
  obtain ⟨q, hq⟩ : ∃ q, q = x / 10 := ⟨_, rfl⟩
  have e1 : (x : Int) / 100 = d1 := by omega
  have e2 : (x : Int) / 10 = q := by omega
  have e3 : (q : Int) % 10 = d2 := by omega
  have e4 : (x : Int) % 10 = d3 := by omega
  have l1 : d1 < 16 := by omega
  have l2 : d2 < 16 := by omega
  have l3 : d3 < 16 := by omega
  by_cases h100 : 100 ≤ x
  · have HD := Lib.hid (show decL x = [hexDig d1, hexDig d2, hexDig d3] by rw [dec3 x (by omega) (by omega), hd1, hd2, hd3])
    clear hd1 hd2 hd3 hq
    have h10 : 10 ≤ x := by omega
    go_enter Tryz.func164, Tryz.ntmps164
    go_wp2_with (focus (at_builtin; go_must (refine buf_append _ rfl _ _ rfl base v l (by rfl) (HB.out.alloc _) _ _ rfl (slat_byte _ _ _ rfl) (by simp) (by simp; omega) (by simp; omega) ?_)))
    intro v1 w1 hB1 hG1
    have HB1 := Lib.hid hB1
    have HG1 := Lib.hid hG1
    have hb1 : base ≤ w1.heap.size := by have := hG1.by_.size; simp at this; omega
    clear hB1 hG1
    go_wp2_with (focus (at_builtin; go_must (refine buf_append _ rfl _ _ rfl base v1 _ (by rfl) (HB1.out.alloc _) _ _ rfl (slat_byte _ _ _ rfl) (by simp) (by simp; omega) (by simp; omega) ?_)))
    intro v2 w2 hB2 hG2
    have HB2 := Lib.hid hB2
    have HG2 := Lib.hid hG2
    have hb2 : base ≤ w2.heap.size := by have := hG2.by_.size; simp at this; omega
    clear hB2 hG2
    go_wp2_with (focus (at_builtin; go_must (refine buf_append _ rfl _ _ rfl base v2 _ (by rfl) (HB2.out.alloc _) _ _ rfl (slat_byte _ _ _ rfl) (by simp) (by simp; omega) (by simp; omega) ?_)))
    intro v3 w3 hB3 hG3
    have HB3 := Lib.hid hB3
    have HG3 := Lib.hid hG3
    clear hB3 hG3
    go_wp2_with fail
    go_ret
    refine buf_end HB3.out ?_ ((HG1.out.before.trans HG2.out.before).trans HG3.out.before)
    rw [HD.out, hex_at d1 l1, hex_at d2 l2, hex_at d3 l3]
  · by_cases h10 : 10 ≤ x
    · have HD := Lib.hid (show decL x = [hexDig d2, hexDig d3] by rw [dec2 x (by omega) (by omega), hd2, hd3, Nat.mod_eq_of_lt (show x / 10 < 10 by omega)])
      clear hd1 hd2 hd3 hq
      go_enter Tryz.func164, Tryz.ntmps164
      go_wp2_with (focus (at_builtin; go_must (refine buf_append _ rfl _ _ rfl base v l (by rfl) (HB.out.alloc _) _ _ rfl (slat_byte _ _ _ rfl) (by simp) (by simp; omega) (by simp; omega) ?_)))
      intro v1 w1 hB1 hG1
      have HB1 := Lib.hid hB1
      have HG1 := Lib.hid hG1
      have hb1 : base ≤ w1.heap.size := by have := hG1.by_.size; simp at this; omega
      clear hB1 hG1
      go_wp2_with (focus (at_builtin; go_must (refine buf_append _ rfl _ _ rfl base v1 _ (by rfl) (HB1.out.alloc _) _ _ rfl (slat_byte _ _ _ rfl) (by simp) (by simp; omega) (by simp; omega) ?_)))
      intro v2 w2 hB2 hG2
      have HB2 := Lib.hid hB2
      have HG2 := Lib.hid hG2
      clear hB2 hG2
      go_wp2_with fail
      go_ret
      refine buf_end HB2.out ?_ (HG1.out.before.trans HG2.out.before)
      rw [HD.out, hex_at d2 l2, hex_at d3 l3]
    · have HD := Lib.hid (show decL x = [hexDig d3] by rw [dec1 x (by omega), hd3, Nat.mod_eq_of_lt (show x < 10 by omega)])
      clear hd1 hd2 hd3 hq
      go_enter Tryz.func164, Tryz.ntmps164
      go_wp2_with (focus (at_builtin; go_must (refine buf_append _ rfl _ _ rfl base v l (by rfl) (HB.out.alloc _) _ _ rfl (slat_byte _ _ _ rfl) (by simp) (by simp; omega) (by simp; omega) ?_)))
      intro v1 w1 hB1 hG1
      have HB1 := Lib.hid hB1
      have HG1 := Lib.hid hG1
      clear hB1 hG1
      go_wp2_with fail
      go_ret
      refine buf_end HB1.out ?_ HG1.out.before
      rw [HD.out, hex_at d3 l3]

theorem w16 (n : Int) (h0 : 0 ≤ n) (h1 : n < 2 ^ 16) : IntKind.u16.wrap n = n := by rw [IntKind.wrap_u16]; omega
theorem and15s (x : Int) (h0 : 0 ≤ x) (h1 : x < 65536) : bits .and .u16 x 15 = x % 16 := bits_mask .u16 16 (by decide) w16 4 (by decide) x h0 h1
theorem hex1 (x : Nat) (h0 : 0 < x) (h : x < 16) : hexL x = [hexDig (x % 16)] := by
  rw [hexL_of h0, show x / 16 = 0 by omega, hexL_zero]; rfl
theorem hex2 (x : Nat) (h0 : 16 ≤ x) (h : x < 256) : hexL x = [hexDig (x / 16 % 16), hexDig (x % 16)] := by
  rw [hexL_of (by omega), hex1 (x / 16) (by omega) (by omega)]; rfl
theorem hex3 (x : Nat) (h0 : 256 ≤ x) (h : x < 4096) : hexL x = [hexDig (x / 256 % 16), hexDig (x / 16 % 16), hexDig (x % 16)] := by
  rw [hexL_of (by omega), hex2 (x / 16) (by omega) (by omega), Nat.div_div_eq_div_mul]; rfl
theorem hex4 (x : Nat) (h0 : 4096 ≤ x) (h : x < 65536) : hexL x = [hexDig (x / 4096), hexDig (x / 256 % 16), hexDig (x / 16 % 16), hexDig (x % 16)] := by
  rw [hexL_of (by omega), hex3 (x / 16) (by omega) (by omega), Nat.div_div_eq_div_mul, Nat.div_div_eq_div_mul, Nat.mod_eq_of_lt (show x / (16 * 256) < 16 by omega)]; rfl
theorem appendHex_any (x : Nat) (base : Nat) (v : Value) (l : List UInt8) (w : World) (h0 : 0 < x) (hx : x < 65536) (hB : Buf w base v l) (hb : base ≤ w.heap.size) (hl : l.length ≤ 1000) :
    Calls Tryz.prog 169 #[v, .int .u16 x] w (BufPost w base v l (hexL x)) := by
  have HB := Lib.hid hB
  clear hB
  obtain ⟨d1, hd1⟩ : ∃ d, d = x / 4096 := ⟨_, rfl⟩
  obtain ⟨d2, hd2⟩ : ∃ d, d = x / 256 % 16 := ⟨_, rfl⟩
  obtain ⟨d3, hd3⟩ : ∃ d, d = x / 16 % 16 := ⟨_, rfl⟩
  obtain ⟨d4, hd4⟩ : ∃ d, d = x % 16 := ⟨_, rfl⟩
  obtain ⟨q2, hq2⟩ : ∃ q, q = x / 256 := ⟨_, rfl⟩
  obtain ⟨q3, hq3⟩ : ∃ q, q = x / 16 := ⟨_, rfl⟩
  have e1 : (x : Int) / 4096 = d1 := by omega
  have e2 : (x : Int) / 256 = q2 := by omega
  have e3 : (x : Int) / 16 = q3 := by omega
  have b2 : bits .and .u16 (q2 : Int) 15 = (d2 : Int) := by rw [and15s _ (by omega) (by omega)]; omega
  have b3 : bits .and .u16 (q3 : Int) 15 = (d3 : Int) := by rw [and15s _ (by omega) (by omega)]; omega
  have b4 : bits .and .u16 (x : Int) 15 = (d4 : Int) := by rw [and15s _ (by omega) (by omega)]; omega
  have l1 : d1 < 16 := by omega
  have l2 : d2 < 16 := by omega
  have l3 : d3 < 16 := by omega
  have l4 : d4 < 16 := by omega
  by_cases h4 : 4096 ≤ x
  · have HD := Lib.hid (show hexL x = [hexDig d1, hexDig d2, hexDig d3, hexDig d4] by rw [hex4 x (by omega) (by omega), hd1, hd2, hd3, hd4])
    clear hd1 hd2 hd3 hd4 hq2 hq3
    have h3 : 256 ≤ x := by omega
    have h2 : 16 ≤ x := by omega
    go_enter Tryz.func169, Tryz.ntmps169
    go_wp2_with (focus (at_builtin; go_must (refine buf_append _ rfl _ _ rfl base v l (by rfl) (HB.out.alloc _) _ _ rfl (slat_byte _ _ _ rfl) (by simp) (by simp; omega) (by simp; omega) ?_)))
    intro v1 w1 hB1 hG1
    have HB1 := Lib.hid hB1
    have HG1 := Lib.hid hG1
    have hb1 : base ≤ w1.heap.size := by have := hG1.by_.size; simp at this; omega
    clear hB1 hG1
    go_wp2_with (focus (at_builtin; go_must (refine buf_append _ rfl _ _ rfl base v1 _ (by rfl) (HB1.out.alloc _) _ _ rfl (slat_byte _ _ _ rfl) (by simp) (by simp; omega) (by simp; omega) ?_)))
    intro v2 w2 hB2 hG2
    have HB2 := Lib.hid hB2
    have HG2 := Lib.hid hG2
    have hb2 : base ≤ w2.heap.size := by have := hG2.by_.size; simp at this; omega
    clear hB2 hG2
    go_wp2_with (focus (at_builtin; go_must (refine buf_append _ rfl _ _ rfl base v2 _ (by rfl) (HB2.out.alloc _) _ _ rfl (slat_byte _ _ _ rfl) (by simp) (by simp; omega) (by simp; omega) ?_)))
    intro v3 w3 hB3 hG3
    have HB3 := Lib.hid hB3
    have HG3 := Lib.hid hG3
    have hb3 : base ≤ w3.heap.size := by have := hG3.by_.size; simp at this; omega
    clear hB3 hG3
    go_wp2_with (focus (at_builtin; go_must (refine buf_append _ rfl _ _ rfl base v3 _ (by rfl) (HB3.out.alloc _) _ _ rfl (slat_byte _ _ _ rfl) (by simp) (by simp; omega) (by simp; omega) ?_)))
    intro v4 w4 hB4 hG4
    have HB4 := Lib.hid hB4
    have HG4 := Lib.hid hG4
    clear hB4 hG4
    go_wp2_with fail
    go_ret
    refine buf_end HB4.out ?_ (((HG1.out.before.trans HG2.out.before).trans HG3.out.before).trans HG4.out.before)
    rw [HD.out, hex_at d1 l1, hex_at d2 l2, hex_at d3 l3, hex_at d4 l4]
  · by_cases h3 : 256 ≤ x
    · have HD := Lib.hid (show hexL x = [hexDig d2, hexDig d3, hexDig d4] by rw [hex3 x (by omega) (by omega), hd2, hd3, hd4])
      clear hd1 hd2 hd3 hd4 hq2 hq3
      have h2 : 16 ≤ x := by omega
      go_enter Tryz.func169, Tryz.ntmps169
      go_wp2_with (focus (at_builtin; go_must (refine buf_append _ rfl _ _ rfl base v l (by rfl) (HB.out.alloc _) _ _ rfl (slat_byte _ _ _ rfl) (by simp) (by simp; omega) (by simp; omega) ?_)))
      intro v1 w1 hB1 hG1
      have HB1 := Lib.hid hB1
      have HG1 := Lib.hid hG1
      have hb1 : base ≤ w1.heap.size := by have := hG1.by_.size; simp at this; omega
      clear hB1 hG1
      go_wp2_with (focus (at_builtin; go_must (refine buf_append _ rfl _ _ rfl base v1 _ (by rfl) (HB1.out.alloc _) _ _ rfl (slat_byte _ _ _ rfl) (by simp) (by simp; omega) (by simp; omega) ?_)))
      intro v2 w2 hB2 hG2
      have HB2 := Lib.hid hB2
      have HG2 := Lib.hid hG2
      have hb2 : base ≤ w2.heap.size := by have := hG2.by_.size; simp at this; omega
      clear hB2 hG2
      go_wp2_with (focus (at_builtin; go_must (refine buf_append _ rfl _ _ rfl base v2 _ (by rfl) (HB2.out.alloc _) _ _ rfl (slat_byte _ _ _ rfl) (by simp) (by simp; omega) (by simp; omega) ?_)))
      intro v3 w3 hB3 hG3
      have HB3 := Lib.hid hB3
      have HG3 := Lib.hid hG3
      clear hB3 hG3
      go_wp2_with fail
      go_ret
      refine buf_end HB3.out ?_ ((HG1.out.before.trans HG2.out.before).trans HG3.out.before)
      rw [HD.out, hex_at d2 l2, hex_at d3 l3, hex_at d4 l4]
    · by_cases h2 : 16 ≤ x
      · have HD := Lib.hid (show hexL x = [hexDig d3, hexDig d4] by rw [hex2 x (by omega) (by omega), hd3, hd4])
        clear hd1 hd2 hd3 hd4 hq2 hq3
        go_enter Tryz.func169, Tryz.ntmps169
        go_wp2_with (focus (at_builtin; go_must (refine buf_append _ rfl _ _ rfl base v l (by rfl) (HB.out.alloc _) _ _ rfl (slat_byte _ _ _ rfl) (by simp) (by simp; omega) (by simp; omega) ?_)))
        intro v1 w1 hB1 hG1
        have HB1 := Lib.hid hB1
        have HG1 := Lib.hid hG1
        have hb1 : base ≤ w1.heap.size := by have := hG1.by_.size; simp at this; omega
        clear hB1 hG1
        go_wp2_with (focus (at_builtin; go_must (refine buf_append _ rfl _ _ rfl base v1 _ (by rfl) (HB1.out.alloc _) _ _ rfl (slat_byte _ _ _ rfl) (by simp) (by simp; omega) (by simp; omega) ?_)))
        intro v2 w2 hB2 hG2
        have HB2 := Lib.hid hB2
        have HG2 := Lib.hid hG2
        clear hB2 hG2
        go_wp2_with fail
        go_ret
        refine buf_end HB2.out ?_ (HG1.out.before.trans HG2.out.before)
        rw [HD.out, hex_at d3 l3, hex_at d4 l4]
      · have HD := Lib.hid (show hexL x = [hexDig d4] by rw [hex1 x (by omega) (by omega), hd4])
        clear hd1 hd2 hd3 hd4 hq2 hq3
        go_enter Tryz.func169, Tryz.ntmps169
        go_wp2_with (focus (at_builtin; go_must (refine buf_append _ rfl _ _ rfl base v l (by rfl) (HB.out.alloc _) _ _ rfl (slat_byte _ _ _ rfl) (by simp) (by simp; omega) (by simp; omega) ?_)))
        intro v1 w1 hB1 hG1
        have HB1 := Lib.hid hB1
        have HG1 := Lib.hid hG1
        clear hB1 hG1
        go_wp2_with fail
        go_ret
        refine buf_end HB1.out ?_ HG1.out.before
        rw [HD.out, hex_at d4 l4]

end Go.Proofs.YtnehofekgnbelaaGreatDoor

/-
  Texts put together: Base, Val, Short, OwnP.
-/
import Derived.Test.YtnehofekgnbelaaGreatDoorRows
import Derived.WalkKit
import Derived.WalkSpells
import Derived.WalkLawsBesides
import Derived.Lib.Hide
import Derived.Laws.AppendOwnNone
import Derived.Deep.AppendLies
import Derived.Deep.DeepMust
import Derived.Handy

/-
  Words that all texts of this seat use: how a list lies in memory behind a slice value.
-/
namespace Go.Proofs.YtnehofekgnbelaaGreatDoor
open Go.RowKit

theorem ret_bool {a b : Bool} (h : a = b) : Ending.returned (.bool a) = .returned (.bool b) := by rw [h]
theorem ret_int {k : IntKind} {a b : Int} (h : a = b) : Ending.returned (.int k a) = .returned (.int k b) := by rw [h]
theorem ret_str {a b : ByteArray} (h : a = b) : Ending.returned (.string a) = .returned (.string b) := by rw [h]

/-- The slice value 'v' reads as the list of values 'xs' (elements of one cell) in the world 'w'. -/
def SlAt (w : World) (v : Value) (xs : List Value) : Prop :=
  ∃ ao cap, v = .slice ao xs.length cap ∧ xs.length ≤ cap ∧ cap ≤ maxLen ∧ (ao = none → xs = [] ∧ cap = 0) ∧
    (∀ a, ao = some a → ∀ j u, xs[j]? = some u → w.cell? (a.add j) = some u)

theorem below_tr {w a b : World} (h : Below w.heap.size w a) (k : Below a.heap.size a b) : Below w.heap.size w b := h.trans (k.mono h.size)

theorem spot_none_of_cell {w : World} {a : Addr} {u : Value} (h : w.cell? a = some u) : a.spot = none := by
  unfold World.cell? at h
  split at h
  · cases hs : a.spot with
    | none => rfl
    | some s => rw [hs] at h; simp at h
  · cases h

theorem SlAt.nil (w : World) : SlAt w (.slice none 0 0) [] :=
  ⟨none, 0, rfl, Nat.le_refl _, Nat.zero_le _, fun _ => ⟨rfl, rfl⟩, fun a h => by cases h⟩

/-- Taken apart as the walk wants it. -/
theorem SlAt.out {w : World} {v : Value} {xs : List Value} (h : SlAt w v xs) :
    (xs = [] ∧ ∃ ao cap, v = .slice ao 0 cap ∧ (ao = none → cap = 0) ∧ cap ≤ maxLen) ∨
    ∃ b off cap, v = .slice (some ⟨b, off, none⟩) xs.length cap ∧ b < w.heap.size ∧ xs.length ≤ cap ∧ cap ≤ maxLen ∧ 0 < xs.length ∧
      ∀ i, i < xs.length → w.cell? ⟨b, off + i, none⟩ = some (xs.getD i undef) := by
  obtain ⟨ao, cap, rfl, hl, hm, hn, hc⟩ := h
  cases xs with
  | nil => exact .inl ⟨rfl, ao, cap, rfl, fun h => (hn h).2, hm⟩
  | cons x xs =>
    right
    cases ao with
    | none => exact absurd (hn rfl).1 (by simp)
    | some a =>
      have h0 := hc a rfl 0 x rfl
      have hs := spot_none_of_cell h0
      obtain ⟨b, off, sp⟩ := a
      simp [Addr.add] at hs
      subst hs
      refine ⟨b, off, cap, rfl, World.block_lt_of_cell? w _ h0, hl, hm, by simp, fun i hi => ?_⟩
      have := hc _ rfl i ((x :: xs).getD i undef) (by rw [List.getD_eq_getElem?_getD, List.getElem?_eq_getElem hi]; rfl)
      rw [Addr.add_lit] at this
      exact this

theorem SlAt.mk {w : World} {b off cap : Nat} {xs : List Value} (hl : xs.length ≤ cap) (hm : cap ≤ maxLen)
    (hc : ∀ i, i < xs.length → w.cell? ⟨b, off + i, none⟩ = some (xs.getD i undef)) : SlAt w (.slice (some ⟨b, off, none⟩) xs.length cap) xs := by
  refine ⟨_, cap, rfl, hl, hm, (fun h => by cases h), fun a ha j u hu => ?_⟩
  cases ha
  have hj := (List.getElem?_eq_some_iff.1 hu).1
  rw [Addr.add_lit, hc j hj, List.getD_eq_getElem?_getD, hu]
  rfl

theorem SlAt.keep {w w' : World} {v : Value} {xs : List Value} (h : SlAt w v xs) (hb : Below w.heap.size w w') : SlAt w' v xs := by
  obtain ⟨ao, cap, rfl, hl, hm, hn, hc⟩ := h
  refine ⟨ao, cap, rfl, hl, hm, hn, fun a ha j u hu => ?_⟩
  have := hc a ha j u hu
  exact (hb.cell (World.block_lt_of_cell? w _ this)).trans this

theorem SlAt.len {w : World} {v : Value} {xs : List Value} (h : SlAt w v xs) : ∃ ao cap, v = .slice ao xs.length cap ∧ xs.length ≤ 9223372036854775807 := by
  obtain ⟨ao, cap, rfl, hl, hm, _⟩ := h
  exact ⟨ao, cap, rfl, by unfold maxLen at hm; omega⟩

/-- What the call owns reads as it lies. -/
theorem SlAt.of_owns {w : World} {base : Nat} {e : TypeId} {v : Value} {n : Nat} {xs : List Value} (h : w.ownsRow base e 1 v n xs) : SlAt w v xs := by
  obtain ⟨hlen, h⟩ := h
  rw [Nat.mul_one] at hlen
  rcases h with ⟨rfl, rfl⟩ | ⟨g, cap, cur, rfl, _, hg, hnc, hcm, _, htake⟩
  · obtain rfl := List.eq_nil_of_length_eq_zero hlen
    exact SlAt.nil w
  · subst hlen
    refine SlAt.mk hnc hcm fun i hi => ?_
    rw [Nat.zero_add, cell_of_row w g i cur e (0, 0) hg, ← htake, List.getD_eq_getElem?_getD, List.getElem?_take, Nat.mul_one, if_pos hi]
    rw [Nat.mul_one] at htake
    have hi' : i < cur.size := by
      have h1 : (cur.toList.take xs.length).length = xs.length := by rw [htake]
      rw [List.length_take] at h1
      have : cur.toList.length = cur.size := by simp
      omega
    simp [hi']

/-- append, whatever is appended: nil, empty or not; the first one is the call's own. -/
theorem wpList_append_sl {P : Program} (w : World) {ops : Array Oper} {rest : List Oper} {o : Oper} {a : Act} {Q : Exit → Act → World → Prop} (hgd : o.guard = none) (s x : Operand) (t : TypeId)
    (ho : o.op = .call { callee := .builtin .append, args := #[s, x], argTypes := #[t, t] })
    (base : Nat) (e : TypeId) (i : TypeInfo) (z : Value) (bytes : Nat) (ht : P.underlying t = some (.slice e)) (hi : P.info? e = some i) (hz : i.zero = some z)
    (hsize : i.size = 1) (hby : i.bytes = bytes) (hzs : z.cells.size = 1)
    (v : Value) (n : Nat) (xs : List Value) (hs : a.eval s = v) (hown : w.ownsRow base e 1 v n xs)
    (sv : Value) (news : List Value) (hx : a.eval x = sv) (hsl : SlAt w sv news) (h1 : ∀ u ∈ news, u.oneCell' = true)
    (h63 : n + news.length ≤ maxLen) (hbytes : (n + news.length) * bytes ≤ 140737488355328) (hbase : base ≤ w.heap.size)
    (h : ∀ v' w', w'.ownsRow base e 1 v' (n + news.length) (xs ++ news) → w.grownBy w' v.ownBlock → (v' = .slice none 0 0 ↔ v = .slice none 0 0 ∧ news.length = 0) → wpList P ops Q rest (a.put o.dst v') w') : wpList P ops Q (o :: rest) a w := by
  obtain ⟨ao, cap, rfl, hl, hm, hn, hc⟩ := hsl
  cases ao with
  | none =>
    obtain ⟨rfl, rfl⟩ := hn rfl
    refine wpList_append_own_none hgd s x t ho base e i 1 ht hi v n xs hs hown hx ?_
    exact h v w (by simpa using hown) (World.grownBy.refl _ _) (by simp)
  | some ad =>
    exact wpList_append_own w hgd s x t ho base e i z 1 bytes ht hi hz hsize hby hzs (by decide) v n xs hs hown ad news.length cap news hx (by rw [Nat.mul_one]) (hc ad rfl) h1 h63 hbytes hbase h

/-- The same, and where the new row lies: where the elder one lay, or in a new block. -/
theorem wpList_append_slg {P : Program} (w : World) {ops : Array Oper} {rest : List Oper} {o : Oper} {a : Act} {Q : Exit → Act → World → Prop} (hgd : o.guard = none) (s x : Operand) (t : TypeId)
    (ho : o.op = .call { callee := .builtin .append, args := #[s, x], argTypes := #[t, t] })
    (base : Nat) (e : TypeId) (i : TypeInfo) (z : Value) (bytes : Nat) (ht : P.underlying t = some (.slice e)) (hi : P.info? e = some i) (hz : i.zero = some z)
    (hsize : i.size = 1) (hby : i.bytes = bytes) (hzs : z.cells.size = 1)
    (v : Value) (n : Nat) (xs : List Value) (hs : a.eval s = v) (hown : w.ownsRow base e 1 v n xs)
    (sv : Value) (news : List Value) (hx : a.eval x = sv) (hsl : SlAt w sv news) (h1 : ∀ u ∈ news, u.oneCell' = true) (hm : 0 < news.length)
    (h63 : n + news.length ≤ maxLen) (hbytes : (n + news.length) * bytes ≤ 140737488355328) (hbase : base ≤ w.heap.size)
    (h : ∀ v' w', w'.ownsRow base e 1 v' (n + news.length) (xs ++ news) → w.grownBy w' v.ownBlock → (∀ g, v'.ownBlock = some g → v.ownBlock = some g ∨ g = w.heap.size) →
      wpList P ops Q rest (a.put o.dst v') w') : wpList P ops Q (o :: rest) a w := by
  obtain ⟨ao, cap, rfl, hl, hcm, hn, hc⟩ := hsl
  cases ao with
  | none =>
    obtain ⟨rfl, _⟩ := hn rfl
    simp at hm
  | some ad =>
    exact wpList_append_lies w hgd s x t ho base e i z 1 bytes ht hi hz hsize hby hzs (by decide) v n xs hs hown ad news.length cap news hx (by rw [Nat.mul_one]) (hc ad rfl) h1 hm h63 hbytes hbase w.heap.size rfl fun g cap' w' h1 h2 h3 _ =>
      h _ w' h1 h2 fun g' hg' => by
        obtain rfl : g = g' := by simpa [Value.ownBlock] using hg'
        exact h3

/-- The second list may be of another slice type. -/
theorem run_append_tt {P : Program} (w : World) (t tx ty e e' : TypeId) (ht : P.underlying t = some (.slice e)) (hx : P.underlying tx = some (.slice e')) (b : Option Addr) (n c : Nat) (x : Value) :
    (Builtin.append_ #[t, tx] ty #[.slice b n c, x]).run P w = (Builtin.append_ #[t, t] ty #[.slice b n c, x]).run P w := by
  unfold Builtin.append_
  simp only [List.getElem?_toArray, List.getElem?_cons_zero, List.getElem?_cons_succ, Sem.run_bind, run_underlying ht, run_underlying hx, Result.andThen_ok]

theorem run_append_slx {P : Program} (w : World) (t tx ty e' : TypeId) (base : Nat) (e : TypeId) (i : TypeInfo) (z : Value) (bytes : Nat) (ht : P.underlying t = some (.slice e)) (htx : P.underlying tx = some (.slice e')) (hi : P.info? e = some i) (hz : i.zero = some z)
    (hsize : i.size = 1) (hby : i.bytes = bytes) (hzs : z.cells.size = 1) (v : Value) (n : Nat) (xs : List Value) (hown : w.ownsRow base e 1 v n xs)
    (sv : Value) (news : List Value) (hsl : SlAt w sv news) (h1 : ∀ u ∈ news, u.oneCell' = true)
    (h63 : n + news.length ≤ maxLen) (hbytes : (n + news.length) * bytes ≤ 140737488355328) (hbase : base ≤ w.heap.size) :
    ∃ v' w', (Builtin.append_ #[t, tx] ty #[v, sv]).run P w = .ok v' w' ∧ w'.ownsRow base e 1 v' (n + news.length) (xs ++ news) ∧ w.grownBy w' v.ownBlock ∧ (∀ g, v'.ownBlock = some g → v.ownBlock = some g ∨ g = w.heap.size) := by
  obtain ⟨vb, vc, hv⟩ : ∃ b c, v = .slice b n c := by
    rcases hown.2 with ⟨rfl, rfl⟩ | ⟨g, cap, cur, rfl, _⟩
    · exact ⟨_, _, rfl⟩
    · exact ⟨_, _, rfl⟩
  obtain ⟨ao, cap, rfl, hl, hm, hn, hc⟩ := hsl
  have htt := run_append_tt (P := P) w t tx ty e e' ht htx vb n vc (.slice ao news.length cap)
  rw [← hv] at htt
  rw [htt]
  cases ao with
  | none =>
    obtain ⟨rfl, rfl⟩ := hn rfl
    exact ⟨v, w, run_append_owned_none w base t ty e i 1 ht hi v n xs hown, by simpa using hown, World.grownBy.refl _ _, fun g h => .inl h⟩
  | some ad =>
    obtain ⟨v', w', hr, h2, h3, _, h5⟩ := run_append_own_at (P := P) w base t ty e i z 1 bytes ht hi hz hsize hby hzs (by decide) v n xs hown ad news.length cap news (by rw [Nat.mul_one]) (hc ad rfl) h1 h63 hbytes hbase
    exact ⟨v', w', hr, h2, h3, fun g hg => by
      rcases h5 with h5 | h5
      · left; rw [← h5]; exact hg
      · right
        rw [h5] at hg
        exact (Option.some.inj hg).symm⟩

theorem wpList_append_slx {P : Program} (w : World) {ops : Array Oper} {rest : List Oper} {o : Oper} {a : Act} {Q : Exit → Act → World → Prop} (hgd : o.guard = none) (s x : Operand) (t tx : TypeId)
    (ho : o.op = .call { callee := .builtin .append, args := #[s, x], argTypes := #[t, tx] })
    (base : Nat) (e e' : TypeId) (i : TypeInfo) (z : Value) (bytes : Nat) (ht : P.underlying t = some (.slice e)) (htx : P.underlying tx = some (.slice e')) (hi : P.info? e = some i) (hz : i.zero = some z)
    (hsize : i.size = 1) (hby : i.bytes = bytes) (hzs : z.cells.size = 1)
    (v : Value) (n : Nat) (xs : List Value) (hs : a.eval s = v) (hown : w.ownsRow base e 1 v n xs)
    (sv : Value) (news : List Value) (hx : a.eval x = sv) (hsl : SlAt w sv news) (h1 : ∀ u ∈ news, u.oneCell' = true)
    (h63 : n + news.length ≤ maxLen) (hbytes : (n + news.length) * bytes ≤ 140737488355328) (hbase : base ≤ w.heap.size)
    (h : ∀ v' w', w'.ownsRow base e 1 v' (n + news.length) (xs ++ news) → w.grownBy w' v.ownBlock → (∀ g, v'.ownBlock = some g → v.ownBlock = some g ∨ g = w.heap.size) →
      wpList P ops Q rest (a.put o.dst v') w') : wpList P ops Q (o :: rest) a w := by
  refine wpList_plain hgd fun K hK => ?_
  obtain ⟨v', w', hr, h2, h3, h4⟩ := run_append_slx (P := P) w t tx o.type e' base e i z bytes ht htx hi hz hsize hby hzs v n xs hown sv news hsl h1 h63 hbytes hbase
  unfold Oper.wp execOp
  simp only [ho, resolve, invoke, builtin, Sem.run_bind, Sem.run_pure, Result.andThen_ok, List.map_toArray, List.map_cons, List.map_nil, hs, hx, hr]
  exact hK _ _ (h v' w' h2 h3 h4)

end Go.Proofs.YtnehofekgnbelaaGreatDoor

/-
  Whole numbers as bytes, and addresses: plain facts, no program in sight.
-/
namespace Go.Proofs.YtnehofekgnbelaaGreatDoor

/-- The number that bytes tell, the greatest first. -/
def val (l : List UInt8) : Nat := l.foldl (fun a b => a * 256 + b.toNat) 0

theorem val_from (l : List UInt8) : ∀ a, l.foldl (fun a b => a * 256 + b.toNat) a = a * 256 ^ l.length + val l := by
  induction l with
  | nil => intro a; simp [val]
  | cons x l ih =>
    intro a
    have h1 := ih (a * 256 + x.toNat)
    have h2 := ih x.toNat
    simp only [List.foldl_cons, List.length_cons, val, Nat.zero_mul, Nat.zero_add] at h1 h2 ⊢
    rw [h1, h2, Nat.pow_succ, Nat.add_mul, Nat.mul_assoc, Nat.mul_comm 256]
    omega
theorem val_cons (x : UInt8) (l : List UInt8) : val (x :: l) = x.toNat * 256 ^ l.length + val l := by
  have := val_from l x.toNat
  simp only [val, List.foldl_cons, Nat.zero_mul, Nat.zero_add] at this ⊢
  exact this
theorem val_append (l m : List UInt8) : val (l ++ m) = val l * 256 ^ m.length + val m := by
  unfold val
  rw [List.foldl_append, val_from]
  rfl
theorem val_lt (l : List UInt8) : val l < 256 ^ l.length := by
  induction l with
  | nil => simp [val]
  | cons x l ih =>
    rw [val_cons, List.length_cons, Nat.pow_succ]
    have hx : x.toNat ≤ 255 := by have := x.toNat_lt; omega
    have := Nat.mul_le_mul_right (256 ^ l.length) hx
    omega

/-- The bytes without zeros ahead. -/
def strip (l : List UInt8) : List UInt8 := l.dropWhile (· == 0)
theorem val_strip (l : List UInt8) : val (strip l) = val l := by
  induction l with
  | nil => rfl
  | cons x l ih =>
    unfold strip at ih ⊢
    rw [List.dropWhile_cons]
    split
    · rename_i h
      have : x = 0 := by simpa using h
      rw [ih, val_cons, this]
      simp
    · rfl
theorem strip_head (l : List UInt8) : strip l = [] ∨ ∃ x r, strip l = x :: r ∧ x ≠ 0 := by
  induction l with
  | nil => left; rfl
  | cons x l ih =>
    unfold strip at ih ⊢
    rw [List.dropWhile_cons]
    split
    · exact ih
    · rename_i h
      right
      exact ⟨x, l, rfl, by simpa using h⟩
theorem strip_suffix (l : List UInt8) : ∃ k, l = List.replicate k 0 ++ strip l := by
  induction l with
  | nil => exact ⟨0, rfl⟩
  | cons x l ih =>
    unfold strip at ih ⊢
    rw [List.dropWhile_cons]
    split
    · rename_i h
      obtain ⟨k, hk⟩ := ih
      have : x = 0 := by simpa using h
      refine ⟨k + 1, ?_⟩
      rw [List.replicate_succ, List.cons_append, ← hk, this]
    · exact ⟨0, by simp⟩
theorem strip_length (l : List UInt8) : (strip l).length ≤ l.length := by
  obtain ⟨k, hk⟩ := strip_suffix l
  have := congrArg List.length hk
  simp at this
  omega
theorem strip_pad (l : List UInt8) : List.replicate (l.length - (strip l).length) 0 ++ strip l = l := by
  obtain ⟨k, hk⟩ := strip_suffix l
  have := congrArg List.length hk
  simp at this
  rw [show l.length - (strip l).length = k from by omega]
  exact hk.symm

/-- Bytes of one length, held one against the other from the first on. -/
def lexL : List UInt8 → List UInt8 → Int
  | x :: l, y :: m => if x = y then lexL l m else if x < y then -1 else 1
  | _, _ => 0
def cmpN (a b : Nat) : Int := if a < b then -1 else if b < a then 1 else 0
def cmpW (l m : List UInt8) : Int := if l.length = m.length then lexL l m else if l.length < m.length then -1 else 1

theorem lex_val : ∀ (l m : List UInt8), l.length = m.length → lexL l m = cmpN (val l) (val m)
  | [], [], _ => rfl
  | [], _ :: _, h => by cases h
  | _ :: _, [], h => by cases h
  | x :: l, y :: m, h => by
    have hl : l.length = m.length := by simpa using h
    have ih := lex_val l m hl
    have h1 := val_lt l
    have h2 := val_lt m
    simp only [lexL, val_cons]
    rw [hl] at h1 ⊢
    by_cases hxy : x = y
    · rw [if_pos hxy, ih, hxy]
      unfold cmpN
      repeat' split
      all_goals omega
    · rw [if_neg hxy]
      have hne : x.toNat ≠ y.toNat := fun e => hxy (UInt8.toNat_inj.1 e)
      by_cases hlt : x < y
      · rw [if_pos hlt]
        have hlt' : x.toNat + 1 ≤ y.toNat := UInt8.lt_iff_toNat_lt.1 hlt
        have := Nat.mul_le_mul_right (256 ^ m.length) hlt'
        rw [Nat.add_mul] at this
        unfold cmpN
        rw [if_pos (by omega)]
      · rw [if_neg hlt]
        have hlt' : y.toNat + 1 ≤ x.toNat := by
          have : ¬ x.toNat < y.toNat := fun e => hlt (UInt8.lt_iff_toNat_lt.2 e)
          omega
        have := Nat.mul_le_mul_right (256 ^ m.length) hlt'
        rw [Nat.add_mul] at this
        unfold cmpN
        rw [if_neg (by omega), if_pos (by omega)]

theorem val_ge_of {x : UInt8} {l : List UInt8} (h : x ≠ 0) : 256 ^ l.length ≤ val (x :: l) := by
  rw [val_cons]
  have : 1 ≤ x.toNat := by
    have : x.toNat ≠ 0 := fun e => h (UInt8.toNat_inj.1 (by rw [e]; rfl))
    omega
  have := Nat.mul_le_mul_right (256 ^ l.length) this
  omega

/-- Of bytes without zeros ahead the longer ones tell the greater number. -/
theorem strip_lt {l m : List UInt8} (h : (strip l).length < (strip m).length) : val l < val m := by
  rw [← val_strip l, ← val_strip m]
  have h1 := val_lt (strip l)
  rcases strip_head m with h0 | ⟨y, r, hm, hy⟩
  · rw [h0] at h; simp at h
  · rw [hm] at h ⊢
    have h2 := val_ge_of (l := r) hy
    have h3 : (256 : Nat) ^ (strip l).length ≤ 256 ^ r.length := Nat.pow_le_pow_right (by decide) (by simp at h; omega)
    omega
theorem cmpW_val (l m : List UInt8) : cmpW (strip l) (strip m) = cmpN (val l) (val m) := by
  unfold cmpW
  by_cases h : (strip l).length = (strip m).length
  · rw [if_pos h, lex_val _ _ h, val_strip, val_strip]
  · rw [if_neg h]
    by_cases h2 : (strip l).length < (strip m).length
    · rw [if_pos h2]
      have := strip_lt h2
      unfold cmpN
      rw [if_pos this]
    · rw [if_neg h2]
      have := strip_lt (show (strip m).length < (strip l).length by omega)
      unfold cmpN
      rw [if_neg (by omega), if_pos this]
theorem lex_eq : ∀ (l m : List UInt8), l.length = m.length → lexL l m = 0 → l = m
  | [], [], _, _ => rfl
  | [], _ :: _, h, _ => by cases h
  | _ :: _, [], h, _ => by cases h
  | x :: l, y :: m, h, h0 => by
    simp only [lexL] at h0
    by_cases hxy : x = y
    · rw [if_pos hxy] at h0
      rw [hxy, lex_eq l m (by simpa using h) h0]
    · rw [if_neg hxy] at h0
      split at h0 <;> simp at h0
theorem strip_unique {l m : List UInt8} (h : val l = val m) : strip l = strip m := by
  have hl : (strip l).length = (strip m).length := by
    rcases Nat.lt_trichotomy (strip l).length (strip m).length with h1 | h1 | h1
    · have := strip_lt h1; omega
    · exact h1
    · have := strip_lt h1; omega
  refine lex_eq _ _ hl ?_
  rw [lex_val _ _ hl, val_strip, val_strip, h]
  unfold cmpN
  simp
theorem val_unique {l m : List UInt8} (hl : l.length = m.length) (h : val l = val m) : l = m := by
  refine lex_eq _ _ hl ?_
  rw [lex_val _ _ hl, h]
  unfold cmpN
  simp

/- ADDRESSES -/
structure Ad where
  six : Bool
  n : Nat

def Ad.ok (a : Ad) : Prop := a.n < if a.six then 65536 else 4294967296
def b4 (n : Nat) : List UInt8 := [UInt8.ofNat (n / 16777216), UInt8.ofNat (n / 65536), UInt8.ofNat (n / 256), UInt8.ofNat n]
def b2 (n : Nat) : List UInt8 := [UInt8.ofNat (n / 256), UInt8.ofNat n]
/-- Sixteen bytes that begin with 2001:db8::, or with what marks an address of four. -/
def pre6 : List UInt8 := [32, 1, 13, 184, 0, 0, 0, 0, 0, 0, 0, 0, 0, 0]
def pre4 : List UInt8 := [0, 0, 0, 0, 0, 0, 0, 0, 0, 0, 255, 255]
/-- The sixteen bytes of an address, and its standard bytes: four or sixteen. -/
def Ad.long (a : Ad) : List UInt8 := if a.six then pre6 ++ b2 a.n else pre4 ++ b4 a.n
def Ad.brief (a : Ad) : List UInt8 := if a.six then pre6 ++ b2 a.n else b4 a.n
def Ad.width (a : Ad) : Nat := if a.six then 16 else 4

theorem Ad.long_length (a : Ad) : a.long.length = 16 := by unfold Ad.long; split <;> rfl
theorem Ad.brief_length (a : Ad) : a.brief.length = a.width := by unfold Ad.brief Ad.width; split <;> rfl

theorem toNat_ofNat (n : Nat) : (UInt8.ofNat n).toNat = n % 256 := by simp
theorem val_b4 (n : Nat) (h : n < 4294967296) : val (b4 n) = n := by
  simp only [b4, val_cons, toNat_ofNat, List.length_cons, List.length_nil]
  simp [val]
  omega
theorem val_b2 (n : Nat) (h : n < 65536) : val (b2 n) = n := by
  simp only [b2, val_cons, toNat_ofNat, List.length_cons, List.length_nil]
  simp [val]
  omega
/-- What the number of sixteen bytes begins with. -/
def base6 : Nat := val pre6 * 65536
attribute [irreducible] base6
theorem val_brief (a : Ad) (h : a.ok) : val a.brief = if a.six then base6 + a.n else a.n := by
  unfold Ad.ok at h
  unfold Ad.brief
  cases hs : a.six with
  | false => rw [hs] at h; simp at h ⊢; exact val_b4 _ h
  | true =>
    rw [hs] at h
    simp only [if_true] at h ⊢
    rw [val_append, val_b2 _ h, show (b2 a.n).length = 2 from rfl, show (256 : Nat) ^ 2 = 65536 from rfl]
    unfold base6
    generalize val pre6 = p
    rfl

/-- How two addresses are ordered: -2 where they are of two kinds. -/
def Ad.cmp (a b : Ad) : Int := if a.six = b.six then cmpN a.n b.n else -2

theorem cmp_brief (a b : Ad) (ha : a.ok) (hb : b.ok) (h : a.six = b.six) : cmpW (strip a.brief) (strip b.brief) = cmpN a.n b.n := by
  have e1 := val_brief a ha
  have e2 := val_brief b hb
  rw [cmpW_val, e1, e2, h]
  generalize base6 = B
  clear e1 e2
  cases b.six with
  | false => rfl
  | true =>
    show cmpN (B + a.n) (B + b.n) = cmpN a.n b.n
    unfold cmpN
    by_cases h1 : a.n < b.n
    · rw [if_pos h1, if_pos (by omega)]
    · rw [if_neg h1, if_neg (by omega)]
      by_cases h2 : b.n < a.n
      · rw [if_pos h2, if_pos (by omega)]
      · rw [if_neg h2, if_neg (by omega)]

end Go.Proofs.YtnehofekgnbelaaGreatDoor

/-
  impl.short: texts of at most 64 bytes.
-/
namespace Go.Proofs.YtnehofekgnbelaaGreatDoor
open Go.RowKit

/-- Is some text longer than 64 bytes? -/
def longIn (ss : List ByteArray) : Bool := ss.any fun s => decide (64 < (s.size : Int))
def strVals (ss : List ByteArray) : List Value := ss.map Value.string

theorem strVals_length (ss : List ByteArray) : (strVals ss).length = ss.length := by simp [strVals]
theorem strVals_getD (ss : List ByteArray) (i : Nat) (h : i < ss.length) : (strVals ss).getD i undef = .string (ss.getD i ByteArray.empty) := by
  simp [strVals, List.getD_eq_getElem?_getD, List.getElem?_eq_getElem h]

theorem longIn_of (ss : List ByteArray) (k : Nat) (hk : k < ss.length) (h : 64 < ((ss.getD k ByteArray.empty).size : Int)) : longIn ss = true := by
  unfold longIn
  rw [List.any_eq_true]
  refine ⟨ss.getD k ByteArray.empty, ?_, by simpa using h⟩
  rw [List.getD_eq_getElem?_getD, List.getElem?_eq_getElem hk]
  exact List.getElem_mem hk

theorem longIn_no (ss : List ByteArray) (h : ∀ j, j < ss.length → ((ss.getD j ByteArray.empty).size : Int) ≤ 64) : longIn ss = false := by
  unfold longIn
  rw [List.any_eq_false]
  intro s hs
  obtain ⟨k, hk, rfl⟩ := List.getElem_of_mem hs
  have := h k hk
  rw [List.getD_eq_getElem?_getD, List.getElem?_eq_getElem hk] at this
  simpa using this

set_option maxHeartbeats 400000 in
theorem short1_any (s : ByteArray) (w : World) :
    Calls Tryz.prog 65 #[.string s] w fun e w' => e = .returned (.bool (decide (64 < (s.size : Int)))) ∧ w = w' := by
  go_enter Tryz.func65, Tryz.ntmps65
  go_wp2
  go_ret
  exact ⟨rfl, rfl⟩

def IdxPost (w : World) (ss : List ByteArray) (e : Ending) (w' : World) : Prop := ∃ r : Int, e = .returned (.int .i64 r) ∧ decide (0 ≤ r) = longIn ss ∧ w = w'

set_option maxHeartbeats 400000 in
theorem idxShort_none (a : Option Addr) (cap : Nat) (w : World) :
    Calls Tryz.prog 94 #[.slice a 0 cap, .func (.func 65) #[] #[]] w fun e w' => e = .returned (.int .i64 (-1)) ∧ w = w' := by
  go_enter Tryz.func94, Tryz.ntmps94
  go_wp2
  refine wp_loop_rounds 1 ?_
  rw [rounds_succ]
  go_wp2
  go_ret
  exact ⟨rfl, rfl⟩

set_option maxHeartbeats 400000 in
theorem idxShort_some (b off : Nat) (n cap : Nat) (ss : List ByteArray) (w : World) (hn : ss.length = n) (hm : n ≤ 9223372036854775807)
    (hc : ∀ i, i < n → w.cell? ⟨b, off + i, none⟩ = some (.string (ss.getD i ByteArray.empty))) :
    Calls Tryz.prog 94 #[.slice (some ⟨b, off, none⟩) n cap, .func (.func 65) #[] #[]] w (IdxPost w ss) := by
  have HN := Lib.hid hn
  have HC := Lib.hid hc
  clear hn hc
  go_enter Tryz.func94, Tryz.ntmps94
  go_wp2
  go_loop [8] (fun i => ∃ k : Nat, k ≤ n ∧ i = .int .i64 k ∧ Hid (∀ j, j < k → ((ss.getD j ByteArray.empty).size : Int) ≤ 64)) (fun i => n - (intOf i).toNat)
  case atStart => exact ⟨0, Nat.zero_le _, rfl, fun j hj => by omega⟩
  case round =>
    obtain ⟨k, hk, rfl, hall⟩ := hrel
    by_cases hlt : k < n
    · have hcell := HC.out k hlt
      generalize hx : ss.getD k ByteArray.empty = x at hcell
      have HX := Lib.hid hx
      clear hx
      by_cases hl : 64 < (x.size : Int)
      · have hd : decide (64 < (x.size : Int)) = true := by simpa using hl
        go_wp2_with (go_at_call 65; refine (short1_any _ _).mono ?_; rintro e w' ⟨rfl, rfl⟩)
        go_ret
        exact ⟨k, rfl, by rw [longIn_of ss k (by rw [HN.out]; exact hlt) (by rw [HX.out]; exact hl)]; simp, rfl⟩
      · have hd : decide (64 < (x.size : Int)) = false := by simpa using hl
        go_wp2_with (go_at_call 65; refine (short1_any _ _).mono ?_; rintro e w' ⟨rfl, rfl⟩)
        go_round
        case rel => exact ⟨k + 1, by omega, by go_num, fun j hj => by
          by_cases hjk : j = k
          · rw [hjk, HX.out]; omega
          · exact hall.out j (by omega)⟩
        case measure => simp [intOf]; omega
    · obtain rfl : k = n := by omega
      go_wp2
      go_ret
      exact ⟨-1, rfl, by rw [longIn_no ss (fun j hj => hall.out j (by rw [← HN.out]; exact hj))]; decide, rfl⟩

theorem idxShort (v : Value) (ss : List ByteArray) (w : World) (h : SlAt w v (strVals ss)) :
    Calls Tryz.prog 94 #[v, .func (.func 65) #[] #[]] w (IdxPost w ss) := by
  rcases h.out with ⟨h0, ao, cap, rfl, _⟩ | ⟨b, off, cap, rfl, hb, hl, hm, h0, hc⟩
  · have hs : ss = [] := by cases ss; rfl; cases h0
    subst hs
    refine (idxShort_none ao cap w).mono ?_
    rintro e w' ⟨rfl, rfl⟩
    exact ⟨-1, rfl, by decide, rfl⟩
  · rw [strVals_length] at hl hc ⊢
    refine idxShort_some b off ss.length cap ss w rfl (by unfold maxLen at hm; omega) fun i hi => ?_
    rw [hc i hi, strVals_getD ss i hi]

set_option maxHeartbeats 400000 in
theorem containsShort (v : Value) (ss : List ByteArray) (w : World) (h : SlAt w v (strVals ss)) :
    Calls Tryz.prog 64 #[v, .func (.func 65) #[] #[]] w fun e w' => e = .returned (.bool (longIn ss)) ∧ w = w' := by
  have H := Lib.hid h
  clear h
  go_enter Tryz.func64, Tryz.ntmps64
  go_wp2_with (go_at_call 94; refine (idxShort _ _ _ H.out).mono ?_; rintro e w' ⟨r, rfl, hr, rfl⟩; have HR := Lib.hid hr; clear hr)
  go_ret
  exact ⟨ret_bool (by rw [← HR.out]), rfl⟩

set_option maxHeartbeats 400000 in
theorem short_any (v : Value) (ss : List ByteArray) (w : World) (h : SlAt w v (strVals ss)) :
    Calls Tryz.prog 38 #[v] w fun e w' => e = .returned (.bool (!longIn ss)) ∧ w = w' := by
  have H := Lib.hid h
  clear h
  go_enter Tryz.func38, Tryz.ntmps38
  go_wp2_with (go_at_call 64; refine (containsShort _ _ _ H.out).mono ?_; rintro e w' ⟨rfl, rfl⟩)
  go_ret
  exact ⟨rfl, rfl⟩

theorem short_yes (v : Value) (ss : List ByteArray) (w : World) (h : SlAt w v (strVals ss)) (hl : longIn ss = false) :
    Calls Tryz.prog 38 #[v] w fun e w' => e = .returned (.bool true) ∧ w = w' :=
  (short_any v ss w h).mono fun e w' ⟨he, hw⟩ => ⟨by rw [he, hl]; rfl, hw⟩
theorem short_not (v : Value) (ss : List ByteArray) (w : World) (h : SlAt w v (strVals ss)) (hl : longIn ss = true) :
    Calls Tryz.prog 38 #[v] w fun e w' => e = .returned (.bool false) ∧ w = w' :=
  (short_any v ss w h).mono fun e w' ⟨he, hw⟩ => ⟨by rw [he, hl]; rfl, hw⟩

/-- A slice of one text, just laid. -/
theorem slat_one (w : World) (s : ByteArray) : SlAt (w.alloc (.cells #[.string s] 9)) (.slice (some ⟨w.heap.size, 0, none⟩) 1 1) (strVals [s]) :=
  SlAt.mk (xs := strVals [s]) (by simp [strVals]) (by unfold maxLen; simp) fun i hi => by
    have : i = 0 := by simp [strVals] at hi; omega
    subst this
    simp [strVals, go_sem]

end Go.Proofs.YtnehofekgnbelaaGreatDoor

/-
  append to an owned row all of whose cells, the spare ones too, are of one kind.
-/
namespace Go.Proofs.YtnehofekgnbelaaGreatDoor
open Go.RowKit
set_option linter.unusedVariables false

/-- The row that v is, with all its cells of the kind p. -/
def OwnP (w : World) (base : Nat) (e : TypeId) (size : Nat) (p : Value → Prop) (g n cap : Nat) (xs : List Value) : Prop :=
  xs.length = n * size ∧ base ≤ g ∧ n ≤ cap ∧ cap ≤ maxLen ∧ ∃ cur : Array Value, w.heap[g]? = some (.cells cur e (0, 0)) ∧ cur.size = cap * size ∧ cur.toList.take (n * size) = xs ∧ ∀ u ∈ cur.toList, p u
theorem OwnP.on {w w' : World} {base : Nat} {e : TypeId} {size : Nat} {p : Value → Prop} {g n cap : Nat} {xs : List Value} (h : OwnP w base e size p g n cap xs) (hb : Below w.heap.size w w') : OwnP w' base e size p g n cap xs := by
  obtain ⟨h1, h2, h3, h4, cur, h5, h6, h7, h8⟩ := h
  exact ⟨h1, h2, h3, h4, cur, (by rw [hb.block g (Array.getElem?_eq_some_iff.1 h5).1]; exact h5), h6, h7, h8⟩
theorem OwnP.cell {w : World} {base : Nat} {e : TypeId} {size : Nat} {p : Value → Prop} {g n cap : Nat} {xs : List Value} (h : OwnP w base e size p g n cap xs) (j : Nat) (hj : j < n * size) : w.cell? ⟨g, j, none⟩ = xs[j]? := by
  obtain ⟨h1, h2, h3, h4, cur, h5, h6, h7, h8⟩ := h
  rw [cell_of_row w g j cur e (0, 0) h5, ← h7, List.getElem?_take, if_pos hj]
  simp
theorem OwnP.kind {w : World} {base : Nat} {e : TypeId} {size : Nat} {p : Value → Prop} {g n cap : Nat} {xs : List Value} (h : OwnP w base e size p g n cap xs) (j : Nat) (u : Value) (hu : w.cell? ⟨g, j, none⟩ = some u) : p u := by
  obtain ⟨h1, h2, h3, h4, cur, h5, h6, h7, h8⟩ := h
  rw [cell_of_row w g j cur e (0, 0) h5] at hu
  exact h8 u (by have := Array.mem_of_getElem? hu; simpa using this)
theorem OwnP.frozen {w : World} {base : Nat} {e : TypeId} {size : Nat} {p : Value → Prop} {g n cap : Nat} {xs : List Value} (h : OwnP w base e size p g n cap xs) (j : Nat) : w.frozen? ⟨g, j, none⟩ = false := by
  obtain ⟨h1, h2, h3, h4, cur, h5, h6, h7, h8⟩ := h
  exact frozen_of_row w g j cur e h5
theorem OwnP.lt {w : World} {base : Nat} {e : TypeId} {size : Nat} {p : Value → Prop} {g n cap : Nat} {xs : List Value} (h : OwnP w base e size p g n cap xs) : g < w.heap.size := by
  obtain ⟨h1, h2, h3, h4, cur, h5, h6, h7, h8⟩ := h
  exact (Array.getElem?_eq_some_iff.1 h5).1

theorem run_append_p {P : Program} (w : World) (base : Nat) (t ty e : TypeId) (i : TypeInfo) (z : Value) (size bytes : Nat) (p : Value → Prop) (ht : P.underlying t = some (.slice e)) (hi : P.info? e = some i) (hz : i.zero = some z)
    (hsize : i.size = size) (hby : i.bytes = bytes) (hzs : z.cells.size = size) (hsz : 0 < size) (hzk : ∀ k, ∀ u ∈ (Builtin.zeroCells z.cells k).toList, p u)
    (g n cap : Nat) (xs : List Value) (hown : OwnP w base e size p g n cap xs)
    (ad : Addr) (m c : Nat) (news : List Value) (hl : news.length = m * size) (hnews : ∀ j u, news[j]? = some u → w.cell? (ad.add j) = some u) (h1 : ∀ u ∈ news, u.oneCell' = true) (hp : ∀ u ∈ news, p u)
    (h63 : n + m ≤ maxLen) (hbytes : (n + m) * bytes ≤ 140737488355328) (hbase : base ≤ w.heap.size) :
    ∃ g' cap' w', (Builtin.append_ #[t, t] ty #[.slice (some ⟨g, 0, none⟩) n cap, .slice (some ad) m c]).run P w = .ok (.slice (some ⟨g', 0, none⟩) (n + m) cap') w' ∧ OwnP w' base e size p g' (n + m) cap' (xs ++ news) ∧ w.grownBy w' (some g) ∧ (g' = g ∨ g' = w.heap.size) := by
  subst hsize
  subst hby
  obtain ⟨hn1, hbg, hnc, hcm, cur, hg, hcs, htake, hk⟩ := hown
  have hsmall : n + m ≤ 9223372036854775807 := by simp only [maxLen] at h63; omega
  have hlen : (xs ++ news).length = (n + m) * i.size := by rw [List.length_append, hn1, hl, Nat.add_mul]
  have hxk : ∀ u ∈ xs, p u := fun u hu => hk u (by rw [← htake] at hu; exact List.mem_of_mem_take hu)
  by_cases hroom : n + m ≤ cap
  · have hfit : n * i.size + news.length ≤ cur.size := by rw [hl, hcs, ← Nat.add_mul]; exact Nat.mul_le_mul_right _ hroom
    have hr := run_append_room (P := P) w t ty e i ht hi g n cap cur hg ad m c news hl hnews h1 hroom hfit
    refine ⟨g, cap, _, hr, ⟨hlen, hbg, hroom, hcm, _, setRow_heap w g cur _ e _ hg, ?_, ?_, ?_⟩, ⟨rfl, rfl, rfl, by simp, fun k _ hk => setRow_other w g k _ (fun e => hk (by rw [e]))⟩, .inl rfl⟩
    · simp only [List.size_toArray, List.length_append, List.length_take, List.length_drop, Array.length_toList]
      omega
    · rw [htake, ← hlen]
      exact List.take_left
    · intro u hu
      simp only [List.mem_append] at hu
      rcases hu with (hu | hu) | hu
      · exact hk u (List.mem_of_mem_take hu)
      · exact hp u hu
      · exact hk u (List.mem_of_mem_drop hu)
  · have holds : ∀ j u, xs[j]? = some u → w.cell? ((⟨g, 0, none⟩ : Addr).add j) = some u := fun j u hu => by
      rw [Addr.add_lit, Nat.zero_add, cell_of_row w g j cur e (0, 0) hg, ← hu, ← htake, List.getElem?_take, if_pos (by rw [← hn1]; exact (List.getElem?_eq_some_iff.1 hu).1)]
      simp
    have hr := run_append_grow (P := P) w t ty e i z ht hi hz ⟨g, 0, none⟩ n cap xs hn1 holds ad m c news hl hnews (by omega) (by omega) (growslice_fits (by omega) hbytes)
    have hge := grownCap_ge w (n + m) cap e
    have hgm : grownCap w (n + m) cap e ≤ maxLen := grownCap_le_maxLen w (n + m) cap e h63
    refine ⟨w.heap.size, _, _, hr, ⟨hlen, hbase, hge, hgm, _, heap_alloc_new w.drew _, ?_, ?_, ?_⟩, ⟨rfl, rfl, rfl, by simp, fun k hk _ => heap_alloc_old w.drew _ hk⟩, .inr rfl⟩
    · simp only [Array.size_append, List.size_toArray, size_zeroCells, hzs, hn1, hl, ← Nat.add_mul]
      congr 1
      omega
    · simp only [Array.toList_append, List.append_assoc]
      rw [← List.append_assoc, ← hlen]
      exact List.take_left
    · intro u hu
      simp only [Array.toList_append, List.mem_append] at hu
      rcases hu with (hu | hu) | hu
      · exact hxk u hu
      · exact hp u hu
      · exact hzk _ u hu

theorem wpList_append_p {P : Program} (w : World) {ops : Array Oper} {rest : List Oper} {o : Oper} {a : Act} {Q : Exit → Act → World → Prop} (hgd : o.guard = none) (s x : Operand) (t : TypeId)
    (ho : o.op = .call { callee := .builtin .append, args := #[s, x], argTypes := #[t, t] })
    (base : Nat) (e : TypeId) (i : TypeInfo) (z : Value) (size bytes : Nat) (p : Value → Prop) (ht : P.underlying t = some (.slice e)) (hi : P.info? e = some i) (hz : i.zero = some z)
    (hsize : i.size = size) (hby : i.bytes = bytes) (hzs : z.cells.size = size) (hsz : 0 < size) (hzk : ∀ k, ∀ u ∈ (Builtin.zeroCells z.cells k).toList, p u)
    (g n cap : Nat) (xs : List Value) (hs : a.eval s = .slice (some ⟨g, 0, none⟩) n cap) (hown : OwnP w base e size p g n cap xs)
    (ad : Addr) (m c : Nat) (news : List Value) (hx : a.eval x = .slice (some ad) m c) (hl : news.length = m * size) (hnews : ∀ j u, news[j]? = some u → w.cell? (ad.add j) = some u) (h1 : ∀ u ∈ news, u.oneCell' = true) (hp : ∀ u ∈ news, p u)
    (h63 : n + m ≤ maxLen) (hbytes : (n + m) * bytes ≤ 140737488355328) (hbase : base ≤ w.heap.size)
    (h : ∀ g' cap' w', OwnP w' base e size p g' (n + m) cap' (xs ++ news) → w.grownBy w' (some g) → (g' = g ∨ g' = w.heap.size) → wpList P ops Q rest (a.put o.dst (.slice (some ⟨g', 0, none⟩) (n + m) cap')) w') : wpList P ops Q (o :: rest) a w := by
  refine wpList_plain hgd fun K hK => ?_
  obtain ⟨g', cap', w', hr, h2, h3, h4⟩ := run_append_p (P := P) w base t o.type e i z size bytes p ht hi hz hsize hby hzs hsz hzk g n cap xs hown ad m c news hl hnews h1 hp h63 hbytes hbase
  unfold Oper.wp execOp
  simp only [ho, resolve, invoke, builtin, Sem.run_bind, Sem.run_pure, Result.andThen_ok, List.map_toArray, List.map_cons, List.map_nil, hs, hx, hr]
  exact hK _ _ (h g' cap' w' h2 h3 h4)

end Go.Proofs.YtnehofekgnbelaaGreatDoor

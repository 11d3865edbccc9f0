/-
  Words that all texts of this seat use: how a list lies in memory behind a slice value.
-/
import Derived.Test.YtnehofekgnbelaaRows
import Derived.WalkKit
import Derived.WalkSpells
import Derived.WalkLawsBesides
import Derived.Lib.Hide
import Derived.Laws.AppendOwnNone
import Derived.Deep.AppendLies
import Derived.Deep.DeepMust
import Derived.Handy
namespace Go.Proofs.Ytnehofekgnbelaa
open Go.RowKit

theorem ret_bool {a b : Bool} (h : a = b) : Ending.returned (.bool a) = .returned (.bool b) := by rw [h]
theorem ret_int {k : IntKind} {a b : Int} (h : a = b) : Ending.returned (.int k a) = .returned (.int k b) := by rw [h]
theorem ret_str {a b : ByteArray} (h : a = b) : Ending.returned (.string a) = .returned (.string b) := by rw [h]

/-- The slice value 'v' reads as the list of values 'xs' (elements of one cell) in the world 'w'. -/
def SlAt (w : World) (v : Value) (xs : List Value) : Prop :=
  ∃ ao cap, v = .slice ao xs.length cap ∧ xs.length ≤ cap ∧ cap ≤ maxLen ∧ (ao = none → xs = [] ∧ cap = 0) ∧
    (∀ a, ao = some a → ∀ j u, xs[j]? = some u → w.cell? (a.add j) = some u)

theorem below_tr {w a b : World} (h : Below w.heap.size w a) (k : Below a.heap.size a b) : Below w.heap.size w b := h.trans (k.mono h.size)

theorem spot_none_of_cell {w : World} {a : Addr} {u : Value} (h : w.cell? a = some u) : a.spot = none := by
  unfold World.cell? at h
  split at h
  · cases hs : a.spot with
    | none => rfl
    | some s => rw [hs] at h; simp at h
  · cases h

theorem SlAt.nil (w : World) : SlAt w (.slice none 0 0) [] :=
  ⟨none, 0, rfl, Nat.le_refl _, Nat.zero_le _, fun _ => ⟨rfl, rfl⟩, fun a h => by cases h⟩

/-- Taken apart as the walk wants it. -/
theorem SlAt.out {w : World} {v : Value} {xs : List Value} (h : SlAt w v xs) :
    (xs = [] ∧ ∃ ao cap, v = .slice ao 0 cap ∧ (ao = none → cap = 0) ∧ cap ≤ maxLen) ∨
    ∃ b off cap, v = .slice (some ⟨b, off, none⟩) xs.length cap ∧ b < w.heap.size ∧ xs.length ≤ cap ∧ cap ≤ maxLen ∧ 0 < xs.length ∧
      ∀ i, i < xs.length → w.cell? ⟨b, off + i, none⟩ = some (xs.getD i undef) := by
  obtain ⟨ao, cap, rfl, hl, hm, hn, hc⟩ := h
  cases xs with
  | nil => exact .inl ⟨rfl, ao, cap, rfl, fun h => (hn h).2, hm⟩
  | cons x xs =>
    right
    cases ao with
    | none => exact absurd (hn rfl).1 (by simp)
    | some a =>
      have h0 := hc a rfl 0 x rfl
      have hs := spot_none_of_cell h0
      obtain ⟨b, off, sp⟩ := a
      simp [Addr.add] at hs
      subst hs
      refine ⟨b, off, cap, rfl, World.block_lt_of_cell? w _ h0, hl, hm, by simp, fun i hi => ?_⟩
      have := hc _ rfl i ((x :: xs).getD i undef) (by rw [List.getD_eq_getElem?_getD, List.getElem?_eq_getElem hi]; rfl)
      rw [Addr.add_lit] at this
      exact this

theorem SlAt.mk {w : World} {b off cap : Nat} {xs : List Value} (hl : xs.length ≤ cap) (hm : cap ≤ maxLen)
    (hc : ∀ i, i < xs.length → w.cell? ⟨b, off + i, none⟩ = some (xs.getD i undef)) : SlAt w (.slice (some ⟨b, off, none⟩) xs.length cap) xs := by
  refine ⟨_, cap, rfl, hl, hm, (fun h => by cases h), fun a ha j u hu => ?_⟩
  cases ha
  have hj := (List.getElem?_eq_some_iff.1 hu).1
  rw [Addr.add_lit, hc j hj, List.getD_eq_getElem?_getD, hu]
  rfl

theorem SlAt.keep {w w' : World} {v : Value} {xs : List Value} (h : SlAt w v xs) (hb : Below w.heap.size w w') : SlAt w' v xs := by
  obtain ⟨ao, cap, rfl, hl, hm, hn, hc⟩ := h
  refine ⟨ao, cap, rfl, hl, hm, hn, fun a ha j u hu => ?_⟩
  have := hc a ha j u hu
  exact (hb.cell (World.block_lt_of_cell? w _ this)).trans this

theorem SlAt.len {w : World} {v : Value} {xs : List Value} (h : SlAt w v xs) : ∃ ao cap, v = .slice ao xs.length cap ∧ xs.length ≤ 9223372036854775807 := by
  obtain ⟨ao, cap, rfl, hl, hm, _⟩ := h
  exact ⟨ao, cap, rfl, by unfold maxLen at hm; omega⟩

/-- What the call owns reads as it lies. -/
theorem SlAt.of_owns {w : World} {base : Nat} {e : TypeId} {v : Value} {n : Nat} {xs : List Value} (h : w.ownsRow base e 1 v n xs) : SlAt w v xs := by
  obtain ⟨hlen, h⟩ := h
  rw [Nat.mul_one] at hlen
  rcases h with ⟨rfl, rfl⟩ | ⟨g, cap, cur, rfl, _, hg, hnc, hcm, _, htake⟩
  · obtain rfl := List.eq_nil_of_length_eq_zero hlen
    exact SlAt.nil w
  · subst hlen
    refine SlAt.mk hnc hcm fun i hi => ?_
    rw [Nat.zero_add, cell_of_row w g i cur e (0, 0) hg, ← htake, List.getD_eq_getElem?_getD, List.getElem?_take, Nat.mul_one, if_pos hi]
    rw [Nat.mul_one] at htake
    have hi' : i < cur.size := by
      have h1 : (cur.toList.take xs.length).length = xs.length := by rw [htake]
      rw [List.length_take] at h1
      have : cur.toList.length = cur.size := by simp
      omega
    simp [hi']

/-- append, whatever is appended: nil, empty or not; the first one is the call's own. -/
theorem wpList_append_sl {P : Program} (w : World) {ops : Array Oper} {rest : List Oper} {o : Oper} {a : Act} {Q : Exit → Act → World → Prop} (hgd : o.guard = none) (s x : Operand) (t : TypeId)
    (ho : o.op = .call { callee := .builtin .append, args := #[s, x], argTypes := #[t, t] })
    (base : Nat) (e : TypeId) (i : TypeInfo) (z : Value) (bytes : Nat) (ht : P.underlying t = some (.slice e)) (hi : P.info? e = some i) (hz : i.zero = some z)
    (hsize : i.size = 1) (hby : i.bytes = bytes) (hzs : z.cells.size = 1)
    (v : Value) (n : Nat) (xs : List Value) (hs : a.eval s = v) (hown : w.ownsRow base e 1 v n xs)
    (sv : Value) (news : List Value) (hx : a.eval x = sv) (hsl : SlAt w sv news) (h1 : ∀ u ∈ news, u.oneCell' = true)
    (h63 : n + news.length ≤ maxLen) (hbytes : (n + news.length) * bytes ≤ 140737488355328) (hbase : base ≤ w.heap.size)
    (h : ∀ v' w', w'.ownsRow base e 1 v' (n + news.length) (xs ++ news) → w.grownBy w' v.ownBlock → (v' = .slice none 0 0 ↔ v = .slice none 0 0 ∧ news.length = 0) → wpList P ops Q rest (a.put o.dst v') w') : wpList P ops Q (o :: rest) a w := by
  obtain ⟨ao, cap, rfl, hl, hm, hn, hc⟩ := hsl
  cases ao with
  | none =>
    obtain ⟨rfl, rfl⟩ := hn rfl
    refine wpList_append_own_none hgd s x t ho base e i 1 ht hi v n xs hs hown hx ?_
    exact h v w (by simpa using hown) (World.grownBy.refl _ _) (by simp)
  | some ad =>
    exact wpList_append_own w hgd s x t ho base e i z 1 bytes ht hi hz hsize hby hzs (by decide) v n xs hs hown ad news.length cap news hx (by rw [Nat.mul_one]) (hc ad rfl) h1 h63 hbytes hbase h

/-- The same, and where the new row lies: where the elder one lay, or in a new block. -/
theorem wpList_append_slg {P : Program} (w : World) {ops : Array Oper} {rest : List Oper} {o : Oper} {a : Act} {Q : Exit → Act → World → Prop} (hgd : o.guard = none) (s x : Operand) (t : TypeId)
    (ho : o.op = .call { callee := .builtin .append, args := #[s, x], argTypes := #[t, t] })
    (base : Nat) (e : TypeId) (i : TypeInfo) (z : Value) (bytes : Nat) (ht : P.underlying t = some (.slice e)) (hi : P.info? e = some i) (hz : i.zero = some z)
    (hsize : i.size = 1) (hby : i.bytes = bytes) (hzs : z.cells.size = 1)
    (v : Value) (n : Nat) (xs : List Value) (hs : a.eval s = v) (hown : w.ownsRow base e 1 v n xs)
    (sv : Value) (news : List Value) (hx : a.eval x = sv) (hsl : SlAt w sv news) (h1 : ∀ u ∈ news, u.oneCell' = true) (hm : 0 < news.length)
    (h63 : n + news.length ≤ maxLen) (hbytes : (n + news.length) * bytes ≤ 140737488355328) (hbase : base ≤ w.heap.size)
    (h : ∀ v' w', w'.ownsRow base e 1 v' (n + news.length) (xs ++ news) → w.grownBy w' v.ownBlock → (∀ g, v'.ownBlock = some g → v.ownBlock = some g ∨ g = w.heap.size) →
      wpList P ops Q rest (a.put o.dst v') w') : wpList P ops Q (o :: rest) a w := by
  obtain ⟨ao, cap, rfl, hl, hcm, hn, hc⟩ := hsl
  cases ao with
  | none =>
    obtain ⟨rfl, _⟩ := hn rfl
    simp at hm
  | some ad =>
    exact wpList_append_lies w hgd s x t ho base e i z 1 bytes ht hi hz hsize hby hzs (by decide) v n xs hs hown ad news.length cap news hx (by rw [Nat.mul_one]) (hc ad rfl) h1 hm h63 hbytes hbase w.heap.size rfl fun g cap' w' h1 h2 h3 _ =>
      h _ w' h1 h2 fun g' hg' => by
        obtain rfl : g = g' := by simpa [Value.ownBlock] using hg'
        exact h3

/-- The second list may be of another slice type. -/
theorem run_append_tt {P : Program} (w : World) (t tx ty e e' : TypeId) (ht : P.underlying t = some (.slice e)) (hx : P.underlying tx = some (.slice e')) (b : Option Addr) (n c : Nat) (x : Value) :
    (Builtin.append_ #[t, tx] ty #[.slice b n c, x]).run P w = (Builtin.append_ #[t, t] ty #[.slice b n c, x]).run P w := by
  unfold Builtin.append_
  simp only [List.getElem?_toArray, List.getElem?_cons_zero, List.getElem?_cons_succ, Sem.run_bind, run_underlying ht, run_underlying hx, Result.andThen_ok]

theorem run_append_slx {P : Program} (w : World) (t tx ty e' : TypeId) (base : Nat) (e : TypeId) (i : TypeInfo) (z : Value) (bytes : Nat) (ht : P.underlying t = some (.slice e)) (htx : P.underlying tx = some (.slice e')) (hi : P.info? e = some i) (hz : i.zero = some z)
    (hsize : i.size = 1) (hby : i.bytes = bytes) (hzs : z.cells.size = 1) (v : Value) (n : Nat) (xs : List Value) (hown : w.ownsRow base e 1 v n xs)
    (sv : Value) (news : List Value) (hsl : SlAt w sv news) (h1 : ∀ u ∈ news, u.oneCell' = true)
    (h63 : n + news.length ≤ maxLen) (hbytes : (n + news.length) * bytes ≤ 140737488355328) (hbase : base ≤ w.heap.size) :
    ∃ v' w', (Builtin.append_ #[t, tx] ty #[v, sv]).run P w = .ok v' w' ∧ w'.ownsRow base e 1 v' (n + news.length) (xs ++ news) ∧ w.grownBy w' v.ownBlock ∧ (∀ g, v'.ownBlock = some g → v.ownBlock = some g ∨ g = w.heap.size) := by
  obtain ⟨vb, vc, hv⟩ : ∃ b c, v = .slice b n c := by
    rcases hown.2 with ⟨rfl, rfl⟩ | ⟨g, cap, cur, rfl, _⟩
    · exact ⟨_, _, rfl⟩
    · exact ⟨_, _, rfl⟩
  obtain ⟨ao, cap, rfl, hl, hm, hn, hc⟩ := hsl
  have htt := run_append_tt (P := P) w t tx ty e e' ht htx vb n vc (.slice ao news.length cap)
  rw [← hv] at htt
  rw [htt]
  cases ao with
  | none =>
    obtain ⟨rfl, rfl⟩ := hn rfl
    exact ⟨v, w, run_append_owned_none w base t ty e i 1 ht hi v n xs hown, by simpa using hown, World.grownBy.refl _ _, fun g h => .inl h⟩
  | some ad =>
    obtain ⟨v', w', hr, h2, h3, _, h5⟩ := run_append_own_at (P := P) w base t ty e i z 1 bytes ht hi hz hsize hby hzs (by decide) v n xs hown ad news.length cap news (by rw [Nat.mul_one]) (hc ad rfl) h1 h63 hbytes hbase
    exact ⟨v', w', hr, h2, h3, fun g hg => by
      rcases h5 with h5 | h5
      · left; rw [← h5]; exact hg
      · right
        rw [h5] at hg
        exact (Option.some.inj hg).symm⟩

theorem wpList_append_slx {P : Program} (w : World) {ops : Array Oper} {rest : List Oper} {o : Oper} {a : Act} {Q : Exit → Act → World → Prop} (hgd : o.guard = none) (s x : Operand) (t tx : TypeId)
    (ho : o.op = .call { callee := .builtin .append, args := #[s, x], argTypes := #[t, tx] })
    (base : Nat) (e e' : TypeId) (i : TypeInfo) (z : Value) (bytes : Nat) (ht : P.underlying t = some (.slice e)) (htx : P.underlying tx = some (.slice e')) (hi : P.info? e = some i) (hz : i.zero = some z)
    (hsize : i.size = 1) (hby : i.bytes = bytes) (hzs : z.cells.size = 1)
    (v : Value) (n : Nat) (xs : List Value) (hs : a.eval s = v) (hown : w.ownsRow base e 1 v n xs)
    (sv : Value) (news : List Value) (hx : a.eval x = sv) (hsl : SlAt w sv news) (h1 : ∀ u ∈ news, u.oneCell' = true)
    (h63 : n + news.length ≤ maxLen) (hbytes : (n + news.length) * bytes ≤ 140737488355328) (hbase : base ≤ w.heap.size)
    (h : ∀ v' w', w'.ownsRow base e 1 v' (n + news.length) (xs ++ news) → w.grownBy w' v.ownBlock → (∀ g, v'.ownBlock = some g → v.ownBlock = some g ∨ g = w.heap.size) →
      wpList P ops Q rest (a.put o.dst v') w') : wpList P ops Q (o :: rest) a w := by
  refine wpList_plain hgd fun K hK => ?_
  obtain ⟨v', w', hr, h2, h3, h4⟩ := run_append_slx (P := P) w t tx o.type e' base e i z bytes ht htx hi hz hsize hby hzs v n xs hown sv news hsl h1 h63 hbytes hbase
  unfold Oper.wp execOp
  simp only [ho, resolve, invoke, builtin, Sem.run_bind, Sem.run_pure, Result.andThen_ok, List.map_toArray, List.map_cons, List.map_nil, hs, hx, hr]
  exact hK _ _ (h v' w' h2 h3 h4)

end Go.Proofs.Ytnehofekgnbelaa

/-
  Texts put together: Row, Frm, 
-/
import Derived.Test.YtnehofekgnbelaaGreatDoorM1
import Derived.Test.YtnehofekgnbelaaGreatDoorY2
import Derived.Test.YtnehofekgnbelaaGreatDoorM19
import Derived.Test.YtnehofekgnbelaaGreatDoorM13
import Derived.Test.YtnehofekgnbelaaGreatDoorM3
import Derived.Test.YtnehofekgnbelaaGreatDoorM2
import Derived.Deep.RegionHeld3
namespace Go.Proofs.YtnehofekgnbelaaGreatDoor
open Go.RowKit
set_option linter.unusedVariables false
def RowP (w : World) (base : Nat) (e : TypeId) (size : Nat) (p : Value → Prop) (v : Value) (n : Nat) (xs : List Value) : Prop :=
 (v = .slice none 0 0 ∧ n = 0 ∧ xs = []) ∨ ∃ g cap, v = .slice (some ⟨g, 0, none⟩) n cap ∧ OwnP w base e size p g n cap xs
section
variable {P : Program} {w w' : World} {base : Nat} {e : TypeId} {size : Nat} {p : Value → Prop} {v : Value} {n : Nat} {xs : List Value}
theorem RowP.nil (w : World) (base : Nat) (e : TypeId) (size : Nat) (p : Value → Prop) : RowP w base e size p (.slice none 0 0) 0 [] := .inl ⟨rfl, rfl, rfl⟩
theorem RowP.on (h : RowP w base e size p v n xs) (hb : Below w.heap.size w w') : RowP w' base e size p v n xs := by
 rcases h with h | ⟨g, cap, hv, ho⟩
 ·exact .inl h
 ·exact .inr ⟨g, cap, hv, ho.on hb⟩
theorem RowP.form (h : RowP w base e size p v n xs) : ∃ ao cap, v = .slice ao n cap ∧ n ≤ cap ∧ cap ≤ maxLen ∧ (ao = none → n = 0 ∧ cap = 0) ∧ ∀ a, ao = some a → ∃ g, a = ⟨g, 0, none⟩ ∧ OwnP w base e size p g n cap xs := by
 rcases h with ⟨rfl, rfl, rfl⟩ | ⟨g, cap, rfl, ho⟩
 ·exact ⟨none, 0, rfl, Nat.le_refl _, Nat.zero_le _, fun _ => ⟨rfl, rfl⟩, fun a h => by cases h⟩
 ·exact ⟨_, cap, rfl, ho.2.2.1, ho.2.2.2.1, (fun h => by cases h), fun a h => by cases h; exact ⟨g, rfl, ho⟩⟩
theorem RowP.len (h : RowP w base e size p v n xs) : xs.length = n * size := by
 rcases h with ⟨rfl, rfl, rfl⟩ | ⟨g, cap, rfl, ho⟩
 ·simp
 ·exact ho.1
theorem OwnP.past {g cap : Nat} (h : OwnP w base e size p g n cap xs) (hs : w'.heap[g]? = w.heap[g]?) : OwnP w' base e size p g n cap xs := by
 obtain ⟨h1, h2, h3, h4, cur, h5, h6, h7, h8⟩ := h
 exact ⟨h1, h2, h3, h4, cur, hs.trans h5, h6, h7, h8⟩
theorem zcN (w : World) (base : Nat) (t ty e : TypeId) (i : TypeInfo) (z : Value) (size bytes : Nat) (p : Value → Prop) (ht : P.underlying t = some (.slice e)) (hi : P.info? e = some i) (hz : i.zero = some z)
  (hsize : i.size = size) (hby : i.bytes = bytes) (hzs : z.cells.size = size) (hsz : 0 < size) (hzk : ∀ k, ∀ u ∈ (Builtin.zeroCells z.cells k).toList, p u)
  (v : Value) (n : Nat) (xs : List Value) (hrow : RowP w base e size p v n xs)
  (ad : Addr) (m c : Nat) (news : List Value) (hl : news.length = m * size) (hnews : ∀ j u, news[j]? = some u → w.cell? (ad.add j) = some u) (h1 : ∀ u ∈ news, u.oneCell' = true) (hp : ∀ u ∈ news, p u)
  (hm : 0 < m) (h63 : n + m ≤ maxLen) (hbytes : (n + m) * bytes ≤ 140737488355328) (hbase : base ≤ w.heap.size) :
  ∃ g' cap' w', (Builtin.append_ #[t, t] ty #[v, .slice (some ad) m c]).run P w = .ok (.slice (some ⟨g', 0, none⟩) (n + m) cap') w' ∧ OwnP w' base e size p g' (n + m) cap' (xs ++ news) ∧ w.grownBy w' v.ownBlock ∧ (v.ownBlock = some g' ∨ g' = w.heap.size) := by
 rcases hrow with ⟨rfl, rfl, rfl⟩ | ⟨g, cap, rfl, ho⟩
 ·subst hsize
  subst hby
  rw [Nat.zero_add] at hbytes h63
  have hsmall : m ≤ 9223372036854775807 := by simp only [maxLen] at h63; omega
  have hr := run_append_nil (P := P) w t ty e i z ht hi hz ad m c news hl hnews hm (by omega) (by omega)
  have hge := grownCap_ge w m 0 e
  have hgm : grownCap w m 0 e ≤ maxLen := grownCap_le_maxLen w m 0 e (by omega)
  simp only [Nat.zero_add, List.nil_append]
  refine ⟨w.heap.size, _, _, hr, ⟨hl, hbase, hge, hgm, _, heap_alloc_new w.drew _, ?_, ?_, ?_⟩, ⟨rfl, rfl, rfl, by simp, fun k hk _ => heap_alloc_old w.drew _ hk⟩, .inr (by rfl)⟩
  ·simp only [Array.size_append, List.size_toArray, size_zeroCells, hzs, hl, ← Nat.add_mul]
   congr 1
   omega
  ·simp only [Array.toList_append]
   rw [← hl]
   exact List.take_left
  ·intro u hu
   simp only [Array.toList_append, List.mem_append] at hu
   rcases hu with hu | hu
   ·exact hp u hu
   ·exact hzk _ u hu
 ·obtain ⟨g', cap', w', h1, h2, h3, h4⟩ := run_append_p (P := P) w base t ty e i z size bytes p ht hi hz hsize hby hzs hsz hzk g n cap xs ho ad m c news hl hnews h1 hp h63 hbytes hbase
  exact ⟨g', cap', w', h1, h2, h3, h4.elim (fun h => .inl (by rw [h]; rfl)) .inr⟩
theorem zaK {o : Oper} {a : Act} {K : Act → World → Prop} {Q : Exit → Act → World → Prop} (w : World) (s x : Operand) (t : TypeId)
  (ho : o.op = .call { callee := .builtin .append, args := #[s, x], argTypes := #[t, t] })
  (base : Nat) (e : TypeId) (i : TypeInfo) (z : Value) (size bytes : Nat) (p : Value → Prop) (ht : P.underlying t = some (.slice e)) (hi : P.info? e = some i) (hz : i.zero = some z)
  (hsize : i.size = size) (hby : i.bytes = bytes) (hzs : z.cells.size = size) (hsz : 0 < size) (hzk : ∀ k, ∀ u ∈ (Builtin.zeroCells z.cells k).toList, p u)
  (v : Value) (n : Nat) (xs : List Value) (hs : a.eval s = v) (hrow : RowP w base e size p v n xs)
  (ad : Addr) (m c : Nat) (news : List Value) (hx : a.eval x = .slice (some ad) m c) (hl : news.length = m * size) (hnews : ∀ j u, news[j]? = some u → w.cell? (ad.add j) = some u) (h1 : ∀ u ∈ news, u.oneCell' = true) (hp : ∀ u ∈ news, p u)
  (hm : 0 < m) (h63 : n + m ≤ maxLen) (hbytes : (n + m) * bytes ≤ 140737488355328) (hbase : base ≤ w.heap.size)
  (h : ∀ g' cap' w', OwnP w' base e size p g' (n + m) cap' (xs ++ news) → w.grownBy w' v.ownBlock → (v.ownBlock = some g' ∨ g' = w.heap.size) → K (a.put o.dst (.slice (some ⟨g', 0, none⟩) (n + m) cap')) w') : Oper.wp P o a w K Q := by
 obtain ⟨g', cap', w', hr, h2, h3, h4⟩ := zcN (P := P) w base t o.type e i z size bytes p ht hi hz hsize hby hzs hsz hzk v n xs hrow ad m c news hl hnews h1 hp hm h63 hbytes hbase
 unfold Oper.wp execOp
 simp only [ho, resolve, invoke, builtin, Sem.run_bind, Sem.run_pure, Result.andThen_ok, List.map_toArray, List.map_cons, List.map_nil, hs, hx, hr]
 exact h g' cap' w' h2 h3 h4
theorem zN {ops : Array Oper} {rest : List Oper} {o : Oper} {a : Act} {Q : Exit → Act → World → Prop} (w : World) (hgd : o.guard = none) (s x : Operand) (t : TypeId)
  (ho : o.op = .call { callee := .builtin .append, args := #[s, x], argTypes := #[t, t] })
  (base : Nat) (e : TypeId) (i : TypeInfo) (z : Value) (size bytes : Nat) (p : Value → Prop) (ht : P.underlying t = some (.slice e)) (hi : P.info? e = some i) (hz : i.zero = some z)
  (hsize : i.size = size) (hby : i.bytes = bytes) (hzs : z.cells.size = size) (hsz : 0 < size) (hzk : ∀ k, ∀ u ∈ (Builtin.zeroCells z.cells k).toList, p u)
  (v : Value) (n : Nat) (xs : List Value) (hs : a.eval s = v) (hrow : RowP w base e size p v n xs)
  (ad : Addr) (m c : Nat) (news : List Value) (hx : a.eval x = .slice (some ad) m c) (hl : news.length = m * size) (hnews : ∀ j u, news[j]? = some u → w.cell? (ad.add j) = some u) (h1 : ∀ u ∈ news, u.oneCell' = true) (hp : ∀ u ∈ news, p u)
  (hm : 0 < m) (h63 : n + m ≤ maxLen) (hbytes : (n + m) * bytes ≤ 140737488355328) (hbase : base ≤ w.heap.size)
  (h : ∀ g' cap' w', OwnP w' base e size p g' (n + m) cap' (xs ++ news) → w.grownBy w' v.ownBlock → (v.ownBlock = some g' ∨ g' = w.heap.size) → wpList P ops Q rest (a.put o.dst (.slice (some ⟨g', 0, none⟩) (n + m) cap')) w') : wpList P ops Q (o :: rest) a w :=
 wpList_plain hgd fun K hK => zaK w s x t ho base e i z size bytes p ht hi hz hsize hby hzs hsz hzk v n xs hs hrow ad m c news hx hl hnews h1 hp hm h63 hbytes hbase (fun g' cap' w' h2 h3 h4 => hK _ _ (h g' cap' w' h2 h3 h4))
theorem zW {ops : Array Oper} {o : Oper} {a : Act} {K : Act → World → Prop} {Q : Exit → Act → World → Prop} {E : Prop} (w : World) (hgd : o.guard = none) (s x : Operand) (t : TypeId)
  (ho : o.op = .call { callee := .builtin .append, args := #[s, x], argTypes := #[t, t] })
  (base : Nat) (e : TypeId) (i : TypeInfo) (z : Value) (size bytes : Nat) (p : Value → Prop) (ht : P.underlying t = some (.slice e)) (hi : P.info? e = some i) (hz : i.zero = some z)
  (hsize : i.size = size) (hby : i.bytes = bytes) (hzs : z.cells.size = size) (hsz : 0 < size) (hzk : ∀ k, ∀ u ∈ (Builtin.zeroCells z.cells k).toList, p u)
  (v : Value) (n : Nat) (xs : List Value) (hs : a.eval s = v) (hrow : RowP w base e size p v n xs)
  (ad : Addr) (m c : Nat) (news : List Value) (hx : a.eval x = .slice (some ad) m c) (hl : news.length = m * size) (hnews : ∀ j u, news[j]? = some u → w.cell? (ad.add j) = some u) (h1 : ∀ u ∈ news, u.oneCell' = true) (hp : ∀ u ∈ news, p u)
  (hm : 0 < m) (h63 : n + m ≤ maxLen) (hbytes : (n + m) * bytes ≤ 140737488355328) (hbase : base ≤ w.heap.size)
  (h : ∀ g' cap' w', OwnP w' base e size p g' (n + m) cap' (xs ++ news) → w.grownBy w' v.ownBlock → (v.ownBlock = some g' ∨ g' = w.heap.size) → K (a.put o.dst (.slice (some ⟨g', 0, none⟩) (n + m) cap')) w') :
  if Region.wanted o (yielded ops a.tmps) = true then Oper.wp P o a w K Q else E := by
 have hw : Region.wanted o (yielded ops a.tmps) = true := by simp [Region.wanted, hgd]
 rw [if_pos hw]
 exact zaK w s x t ho base e i z size bytes p ht hi hz hsize hby hzs hsz hzk v n xs hs hrow ad m c news hx hl hnews h1 hp hm h63 hbytes hbase h
end
theorem zbF {α : Type} (f : α → List Value) (k : Nat) (hf : ∀ a, (f a).length = k) (l : List α) (j c : Nat) (a : α) (h : l[j]? = some a) (hc : c < k) : (l.flatMap f)[j * k + c]? = (f a)[c]? := by
 induction l generalizing j with
 | nil => cases h
 | cons b l ih =>
  cases j with
  | zero =>
   obtain rfl : b = a := by simpa using h
   rw [List.flatMap_cons, List.getElem?_append_left (by rw [hf]; omega), Nat.zero_mul, Nat.zero_add]
  | succ j =>
   rw [List.flatMap_cons, List.getElem?_append_right (by rw [hf, Nat.add_mul]; omega), hf, show (j + 1) * k + c - k = j * k + c by rw [Nat.add_mul]; omega]
   exact ih j h
theorem zI {α : Type} (f : α → List Value) (k : Nat) (hf : ∀ a, (f a).length = k) (l : List α) : (l.flatMap f).length = l.length * k := by
 induction l with
 | nil => simp
 | cons b l ih => rw [List.flatMap_cons, List.length_append, hf, ih, List.length_cons, Nat.add_mul]; omega
def Bk (w w' : World) : Prop := ∀ (q : Addr) (x : UInt8), w.cell? q = some (u8v x) → w'.cell? q = some (u8v x)
section
variable {w w' w2 : World}
theorem Bk.refl (w : World) : Bk w w := fun _ _ h => h
theorem Bk.trans (h : Bk w w') (k : Bk w' w2) : Bk w w2 := fun q x hq => k q x (h q x hq)
theorem Bk.of_below (hb : Below w.heap.size w w') : Bk w w' := fun q x h => (hb.cell (World.block_lt_of_cell? w _ h)).trans h
theorem Bk.set {p : Addr} {z : Value} (hp : ∀ x : UInt8, w.cell? p ≠ some (u8v x)) : Bk w (w.setCell p z) := fun q x h => by
 rw [World.cell?_setCell_other _ _ _ _ (fun e => hp x (by rw [e]; exact h))]
 exact h
theorem Bk.grown {row : Option Nat} (hg : w.grownBy w' row) (nb : ∀ g, row = some g → ∀ (j : Nat) (x : UInt8), w.cell? ⟨g, j, none⟩ ≠ some (u8v x)) : Bk w w' := fun q x h => by
 refine hg.cell h fun e => ?_
 have hs := spot_none_of_cell h
 refine nb q.block e.symm q.off x ?_
 rw [← h]
 congr 1
 rw [← hs]
theorem IPAt.stay {v : Value} {bs : List UInt8} (h : IPAt w v bs) (hk : Bk w w') : IPAt w' v bs := by
 obtain ⟨⟨ao, cap, hv, hl, hm, hn, hc⟩, hp⟩ := h
 refine ⟨⟨ao, cap, hv, hl, hm, hn, fun p hpp j u hu => ?_⟩, hp⟩
 have h1 := hc p hpp j u hu
 obtain ⟨x, rfl⟩ : ∃ x : UInt8, u = u8v x := by
  have := List.mem_of_getElem? hu
  simp only [ipv, List.mem_map] at this
  obtain ⟨x, _, rfl⟩ := this
  exact ⟨x, rfl⟩
 exact hk _ x h1
theorem AdAt.stay {v : Value} {a : Ad} (h : AdAt w v a) (hk : Bk w w') : AdAt w' v a := h.elim (fun h => .inl (IPAt.stay h hk)) (fun h => .inr (IPAt.stay h hk))
theorem OptAt.stay {v : Value} {o : Option Ad} (h : OptAt w v o) (hk : Bk w w') : OptAt w' v o := by
 cases o with
 | none => exact h
 | some a => exact AdAt.stay h hk
end
structure Fr (ts : List Nat) (base : Nat) (w w' : World) : Prop where
 os : w'.os = w.os
 tape : w'.tape = w.tape
 output : w'.output = w.output
 size : w.heap.size ≤ w'.heap.size
 low : ∀ k, k < base → k < w.heap.size → w'.heap[k]? = w.heap[k]?
 rows : ∀ (k : Nat) (cs : Array Value) (t : TypeId) (f : Nat × Nat), w.heap[k]? = some (.cells cs t f) → t ∉ ts → w'.heap[k]? = some (.cells cs t f)
 bk : Bk w w'
section
variable {ts : List Nat} {base : Nat} {w w' w2 : World}
theorem Fr.refl (ts : List Nat) (base : Nat) (w : World) : Fr ts base w w := ⟨rfl, rfl, rfl, Nat.le_refl _, fun _ _ _ => rfl, fun _ _ _ _ h _ => h, Bk.refl w⟩
theorem Fr.trans (h : Fr ts base w w') (k : Fr ts base w' w2) : Fr ts base w w2 :=
 ⟨k.os.trans h.os, k.tape.trans h.tape, k.output.trans h.output, Nat.le_trans h.size k.size, fun j hj hl => (k.low j hj (Nat.lt_of_lt_of_le hl h.size)).trans (h.low j hj hl),
  fun j cs t f hj ht => k.rows j cs t f (h.rows j cs t f hj ht) ht, h.bk.trans k.bk⟩
theorem Fr.mono {ts' : List Nat} (h : Fr ts base w w') (hs : ∀ t ∈ ts, t ∈ ts') : Fr ts' base w w' :=
 ⟨h.os, h.tape, h.output, h.size, h.low, fun j cs t f hj ht => h.rows j cs t f hj (fun e => ht (hs t e)), h.bk⟩
theorem Fr.of_below (hb : Below w.heap.size w w') : Fr ts base w w' :=
 ⟨hb.os, hb.tape, hb.output, hb.size, fun j _ hl => hb.block j hl, fun j cs t f hj _ => by rw [hb.block j (Array.getElem?_eq_some_iff.1 hj).1]; exact hj, Bk.of_below hb⟩
theorem Fr.grown {row : Option Nat} (hg : w.grownBy w' row) (hrow : ∀ g, row = some g → base ≤ g ∧ (∀ (j : Nat) (x : UInt8), w.cell? ⟨g, j, none⟩ ≠ some (u8v x)) ∧ ∃ cs t f, w.heap[g]? = some (.cells cs t f) ∧ t ∈ ts) : Fr ts base w w' := by
 refine ⟨hg.os, hg.tape, hg.output, hg.size, fun j hj hl => hg.block j hl (fun e => ?_), fun j cs t f hj ht => ?_, Bk.grown hg (fun g e => (hrow g e).2.1)⟩
 ·have := (hrow j e.symm).1
  omega
 ·rw [hg.block j (Array.getElem?_eq_some_iff.1 hj).1 (fun e => ?_)]
  ·exact hj
  ·obtain ⟨_, _, cs', t', f', h1, h2⟩ := hrow j e.symm
   rw [hj] at h1
   cases h1
   exact ht h2
theorem Fr.set {k j : Nat} {z : Value} {cs : Array Value} {t : TypeId} {f : Nat × Nat} (hr : w.heap[k]? = some (.cells cs t f)) (ht : t ∈ ts) (hb : base ≤ k) (hn : ∀ x : UInt8, w.cell? ⟨k, j, none⟩ ≠ some (u8v x)) : Fr ts base w (w.setCell ⟨k, j, none⟩ z) := by
 refine ⟨rfl, rfl, rfl, by simp [World.setCell], fun i hi _ => Below.heap_setCell _ _ _ _ (by show i ≠ k; omega), fun i cs' t' f' hi ht' => ?_, Bk.set hn⟩
 rw [Below.heap_setCell _ _ _ _ (fun e => ?_)]
 ·exact hi
 ·have e' : i = k := e
  subst e'
  rw [hr] at hi
  cases hi
  exact ht' ht
theorem Fr.below {w0 : World} (h : Fr ts base w w') (hb : Below base w0 w) (h0 : base ≤ w.heap.size) : Below base w0 w' :=
 hb.trans ⟨h.os, h.tape, h.output, h.size, fun j hj => h.low j hj (Nat.lt_of_lt_of_le hj h0)⟩
theorem yJ {k j : Nat} {cs cs' : Array Value} {t t' : TypeId} {f f' : Nat × Nat} (h : w.heap[k]? = some (.cells cs t f)) (h' : w.heap[j]? = some (.cells cs' t' f')) (ht : t ≠ t') : k ≠ j := by
 rintro rfl
 rw [h] at h'
 cases h'
 exact ht rfl
theorem OwnP.fr {e : TypeId} {size : Nat} {p : Value → Prop} {g n cap : Nat} {xs : List Value} {b : Nat} (h : OwnP w b e size p g n cap xs) (hf : Fr ts base w w') (he : e ∉ ts) : OwnP w' b e size p g n cap xs := by
 obtain ⟨h1, h2, h3, h4, cur, h5, h6, h7, h8⟩ := h
 exact ⟨h1, h2, h3, h4, cur, hf.rows _ _ _ _ h5 he, h6, h7, h8⟩
theorem RowP.fr {e : TypeId} {size : Nat} {p : Value → Prop} {v : Value} {n : Nat} {xs : List Value} {b : Nat} (h : RowP w b e size p v n xs) (hf : Fr ts base w w') (he : e ∉ ts) : RowP w' b e size p v n xs := by
 rcases h with h | ⟨g, cap, hv, ho⟩
 ·exact .inl h
 ·exact .inr ⟨g, cap, hv, ho.fr hf he⟩
theorem RowP.fr_grown {e : TypeId} {size : Nat} {p : Value → Prop} {v : Value} {n : Nat} {xs : List Value} (h : RowP w base e size p v n xs) (hp : ∀ x : UInt8, ¬ p (u8v x)) (he : e ∈ ts) (hg : w.grownBy w' v.ownBlock) : Fr ts base w w' :=
 Fr.grown hg fun g hv => by
  rcases h with ⟨rfl, _, _⟩ | ⟨g', cap, rfl, ho⟩
  ·simp [Value.ownBlock] at hv
  ·obtain rfl : g' = g := by simpa [Value.ownBlock] using hv
   refine ⟨ho.2.1, fun j x hx => hp x (ho.kind j _ hx), ?_⟩
   obtain ⟨_, _, _, _, cur, h5, _⟩ := ho
   exact ⟨cur, e, _, h5, he⟩
end
set_option maxRecDepth 100000
set_option maxHeartbeats 1000000
theorem zfR (u v : Value) (p q : List UInt8) (w : World) (hp : IPAt w u p) (hq : IPAt w v q) (hl : p.length = 4) (hn : q.length = 16) :
  Calls Tryz.prog 68 #[u, v] w (BelowPost w (.bool (decide (q.take 12 = pre4) && decide (p = q.drop 12)))) := by
 have HP := zh hp
 obtain ⟨bp, op, cp, rfl, lp, g1, g2, _⟩ := hp.out
 obtain ⟨bq, oq, cq, rfl, lq, h1, h2, _⟩ := hq.out
 rw [hl] at HP g1 ⊢
 rw [hn] at hq h1 ⊢
 have HA := zh (show IPAt w (.slice (some ⟨bq, oq + 0, none⟩) 12 (cq - 0)) (q.take 12) by
  have := hq.part 0 12 (by omega) (by omega)
  rw [List.drop_zero] at this
  exact this)
 have HB := zh (show IPAt w (.slice (some ⟨bq, oq + 12, none⟩) 4 (cq - 12)) (q.drop 12) by
  have := hq.part 12 16 (by omega) (by omega)
  rw [List.take_of_length_le (by rw [List.length_drop]; omega)] at this
  exact this)
 rw [Nat.add_zero, Nat.sub_zero] at HA
 have HL := zh (show (q.take 12).length ≤ 1000000 ∧ (q.drop 12).length ≤ 1000000 ∧ p.length ≤ 1000000 by rw [List.length_take, List.length_drop]; omega)
 generalize q.take 12 = qa at HA HL ⊢
 generalize q.drop 12 = qb at HB HL ⊢
 clear hp hq hl hn g1
 obtain ⟨r, hr⟩ : ∃ r : Bool, r = decide (p = qb) := ⟨_, rfl⟩
 obtain ⟨c, hc⟩ : ∃ c : Bool, c = decide (qa = pre4) := ⟨_, rfl⟩
 have HE1 := zh (fun (W : World) (hb : Below w.heap.size w W) (vp : Value) (hpre : SlAt W vp (ipv pre4)) => show Calls Tryz.prog 98 #[.slice (some ⟨bq, oq, none⟩) 12 cq, vp] W (BelowPost W (.bool c)) from by
  rw [hc]; exact equal_any _ _ qa pre4 W (HA.out.1.keep hb) hpre HL.out.1 (by decide))
 have HE2 := zh (fun (W : World) (hb : Below w.heap.size w W) => show Calls Tryz.prog 98 #[.slice (some ⟨bp, op, none⟩) 4 cp, .slice (some ⟨bq, oq + 12, none⟩) 4 (cq - 12)] W (BelowPost W (.bool r)) from by
  rw [hr]; exact equal_any _ _ p qb W (HP.out.1.keep hb) (HB.out.1.keep hb) HL.out.2.2 HL.out.2.1)
 rw [← hr, ← hc]
 clear hr hc HP HA HB HL
 have y1 : (12 : Int) ≤ (cq : Int) := by omega
 have y2 : (16 : Int) ≤ (cq : Int) := by omega
 have y3 : cq ≠ 12 := by omega
 cases c with
 | false =>
  go_enter Tryz.func68, Tryz.ntmps68
  go_wp2_with fail
  refine wp_region_held_drew (S := (fun w' => Hid (Below w.heap.size w w'))) (by kernel_rfl) ?_ (fun hHeld => ?_)
  ·exact zh (below_drewN (Below.refl w.heap.size w) 1)
  refine zA 0 21 ?v0x1 (by rfl) (by kernel_rfl) (by kernel_rfl) (by kernel_rfl) (by kernel_rfl) (fun _ _ _ _ h => h) (by kernel_rfl) ?hy0x1 (by assumption) ?nx0x1
  case hy0x1 =>
   intro w' hSw
   go_simp
   try with_reducible rfl
  simp only [sA, sB, sC]
  refine zA 1 22 ?v1x2 (by rfl) (by kernel_rfl) (by kernel_rfl) (by kernel_rfl) (by kernel_rfl) (fun _ _ _ _ h => h) (by kernel_rfl) ?hy1x2 (by assumption) ?nx1x2
  case hy1x2 =>
   intro w' hSw
   go_simp
   try with_reducible rfl
  simp only [sA, sB, sC]
  refine wpAnyH_ready (rs := [2]) (by kernel_rfl) (by simp) (AllReadyH.cons (o := _) rfl (fun K hK => ?_) AllReadyH.nil)
  go_simp
  go_at_call 99
  refine (prefix_any _).mono ?_
  rintro e w1 ⟨rfl, hpre, hb1⟩
  have hk1 := zh (below_tr (below_drewN (Below.refl w.heap.size w) 1) hb1)
  clear hb1
  refine hK.out _ _ ?_ (fun hHeld => ?_)
  ·exact hk1
  clear hK K
  try simp only [Act.put, sA, sB, sC]
  refine wpAnyH_ready (rs := [3]) (by kernel_rfl) (by simp) (AllReadyH.cons (o := _) rfl (fun K hK => ?_) AllReadyH.nil)
  go_simp
  go_at_call 98
  refine (HE1.out _ hk1.out _ hpre).mono ?_
  rintro e w2 ⟨rfl, hb2⟩
  have hk2 := zh (below_tr hk1.out hb2)
  clear hb2
  refine hK.out _ _ ?_ (fun hHeld => ?_)
  ·exact hk2
  clear hK K
  try simp only [Act.put, sA, sB, sC]
  refine zA 4 25 ?v4x3 (by rfl) (by kernel_rfl) (by kernel_rfl) (by kernel_rfl) (by kernel_rfl) (fun _ _ _ _ h => h) (by kernel_rfl) ?hy4x3 (by assumption) ?nx4x3
  case hy4x3 =>
   intro w' hSw
   go_simp
   try with_reducible rfl
  simp only [sA, sB, sC]
  refine zL 5 26 (by rfl) (by kernel_rfl) (by kernel_rfl) (by kernel_rfl) (by kernel_rfl) (fun _ _ _ _ h => h) (by kernel_rfl) (by assumption) ?nx5x4
  simp only [sA, sB, sC]
  refine zL 6 27 (by rfl) (by kernel_rfl) (by kernel_rfl) (by kernel_rfl) (by kernel_rfl) (fun _ _ _ _ h => h) (by kernel_rfl) (by assumption) ?nx6x5
  simp only [sA, sB, sC]
  refine zL 7 28 (by rfl) (by kernel_rfl) (by kernel_rfl) (by kernel_rfl) (by kernel_rfl) (fun _ _ _ _ h => h) (by kernel_rfl) (by assumption) ?nx7x6
  simp only [sA, sB, sC]
  refine zL 8 29 (by rfl) (by kernel_rfl) (by kernel_rfl) (by kernel_rfl) (by kernel_rfl) (fun _ _ _ _ h => h) (by kernel_rfl) (by assumption) ?nx8x7
  simp only [sA, sB, sC]
  refine zA 9 30 ?v9x8 (by rfl) (by kernel_rfl) (by kernel_rfl) (by kernel_rfl) (by kernel_rfl) (fun _ _ _ _ h => h) (by kernel_rfl) ?hy9x8 (by assumption) ?nx9x8
  case hy9x8 =>
   intro w' hSw
   go_simp
   try with_reducible rfl
  simp only [sA, sB, sC]
  refine zA 10 4 ?v10x9 (by rfl) (by kernel_rfl) (by kernel_rfl) (by kernel_rfl) (by kernel_rfl) (fun _ _ _ _ h => h) (by kernel_rfl) ?hy10x9 (by assumption) ?nx10x9
  case hy10x9 =>
   intro w' hSw
   go_simp
   try with_reducible rfl
  simp only [sA, sB, sC]
  refine wpAnyH_done (by kernel_rfl) ?_ _
  go_wp2_with fail
  go_ret
  exact ⟨rfl, hk2.out⟩
 | true =>
  go_enter Tryz.func68, Tryz.ntmps68
  go_wp2_with fail
  refine wp_region_held_drew (S := (fun w' => Hid (Below w.heap.size w w'))) (by kernel_rfl) ?_ (fun hHeld => ?_)
  ·exact zh (below_drewN (Below.refl w.heap.size w) 1)
  refine zA 0 21 ?v0x10 (by rfl) (by kernel_rfl) (by kernel_rfl) (by kernel_rfl) (by kernel_rfl) (fun _ _ _ _ h => h) (by kernel_rfl) ?hy0x10 (by assumption) ?nx0x10
  case hy0x10 =>
   intro w' hSw
   go_simp
   try with_reducible rfl
  simp only [sA, sB, sC]
  refine zA 1 22 ?v1x11 (by rfl) (by kernel_rfl) (by kernel_rfl) (by kernel_rfl) (by kernel_rfl) (fun _ _ _ _ h => h) (by kernel_rfl) ?hy1x11 (by assumption) ?nx1x11
  case hy1x11 =>
   intro w' hSw
   go_simp
   try with_reducible rfl
  simp only [sA, sB, sC]
  refine wpAnyH_ready (rs := [2]) (by kernel_rfl) (by simp) (AllReadyH.cons (o := _) rfl (fun K hK => ?_) AllReadyH.nil)
  go_simp
  go_at_call 99
  refine (prefix_any _).mono ?_
  rintro e w1 ⟨rfl, hpre, hb1⟩
  have hk1 := zh (below_tr (below_drewN (Below.refl w.heap.size w) 1) hb1)
  clear hb1
  refine hK.out _ _ ?_ (fun hHeld => ?_)
  ·exact hk1
  clear hK K
  try simp only [Act.put, sA, sB, sC]
  refine wpAnyH_ready (rs := [3]) (by kernel_rfl) (by simp) (AllReadyH.cons (o := _) rfl (fun K hK => ?_) AllReadyH.nil)
  go_simp
  go_at_call 98
  refine (HE1.out _ hk1.out _ hpre).mono ?_
  rintro e w2 ⟨rfl, hb2⟩
  have hk2 := zh (below_tr hk1.out hb2)
  clear hb2
  refine hK.out _ _ ?_ (fun hHeld => ?_)
  ·exact hk2
  clear hK K
  try simp only [Act.put, sA, sB, sC]
  refine zA 4 25 ?v4x12 (by rfl) (by kernel_rfl) (by kernel_rfl) (by kernel_rfl) (by kernel_rfl) (fun _ _ _ _ h => h) (by kernel_rfl) ?hy4x12 (by assumption) ?nx4x12
  case hy4x12 =>
   intro w' hSw
   go_simp
   try with_reducible rfl
  simp only [sA, sB, sC]
  refine zA 5 26 ?v5x13 (by rfl) (by kernel_rfl) (by kernel_rfl) (by kernel_rfl) (by kernel_rfl) (fun _ _ _ _ h => h) (by kernel_rfl) ?hy5x13 (by assumption) ?nx5x13
  case hy5x13 =>
   intro w' hSw
   go_simp
   try with_reducible rfl
  simp only [sA, sB, sC]
  refine zA 6 27 ?v6x14 (by rfl) (by kernel_rfl) (by kernel_rfl) (by kernel_rfl) (by kernel_rfl) (fun _ _ _ _ h => h) (by kernel_rfl) ?hy6x14 (by assumption) ?nx6x14
  case hy6x14 =>
   intro w' hSw
   go_simp
   try with_reducible rfl
  simp only [sA, sB, sC]
  refine zA 7 28 ?v7x15 (by rfl) (by kernel_rfl) (by kernel_rfl) (by kernel_rfl) (by kernel_rfl) (fun _ _ _ _ h => h) (by kernel_rfl) ?hy7x15 (by assumption) ?nx7x15
  case hy7x15 =>
   intro w' hSw
   go_simp
   try with_reducible rfl
  simp only [sA, sB, sC]
  refine wpAnyH_ready (rs := [8]) (by kernel_rfl) (by simp) (AllReadyH.cons (o := _) rfl (fun K hK => ?_) AllReadyH.nil)
  go_simp
  go_at_call 98
  refine (HE2.out _ hk2.out).mono ?_
  rintro e w3 ⟨rfl, hb3⟩
  have hk3 := zh (below_tr hk2.out hb3)
  clear hb3
  refine hK.out _ _ ?_ (fun hHeld => ?_)
  ·exact hk3
  clear hK K
  try simp only [Act.put, sA, sB, sC]
  refine zA 9 30 ?v9x16 (by rfl) (by kernel_rfl) (by kernel_rfl) (by kernel_rfl) (by kernel_rfl) (fun _ _ _ _ h => h) (by kernel_rfl) ?hy9x16 (by assumption) ?nx9x16
  case hy9x16 =>
   intro w' hSw
   go_simp
   try with_reducible rfl
  simp only [sA, sB, sC]
  refine zA 10 4 ?v10x17 (by rfl) (by kernel_rfl) (by kernel_rfl) (by kernel_rfl) (by kernel_rfl) (fun _ _ _ _ h => h) (by kernel_rfl) ?hy10x17 (by assumption) ?nx10x17
  case hy10x17 =>
   intro w' hSw
   go_simp
   try with_reducible rfl
  simp only [sA, sB, sC]
  refine wpAnyH_done (by kernel_rfl) ?_ _
  go_wp2_with fail
  go_ret
  exact ⟨rfl, hk3.out⟩
theorem zfS (u v : Value) (p q : List UInt8) (w : World) (hp : IPAt w u p) (hq : IPAt w v q) (hl : p.length = 16) (hn : q.length = 4) :
  Calls Tryz.prog 68 #[u, v] w (BelowPost w (.bool (decide (p.take 12 = pre4) && decide (p.drop 12 = q)))) := by
 have HP := zh hq
 obtain ⟨bp, op, cp, rfl, lp, h1, h2, _⟩ := hp.out
 obtain ⟨bq, oq, cq, rfl, lq, g1, g2, _⟩ := hq.out
 rw [hn] at HP g1 ⊢
 rw [hl] at hp h1 ⊢
 have HA := zh (show IPAt w (.slice (some ⟨bp, op + 0, none⟩) 12 (cp - 0)) (p.take 12) by
  have := hp.part 0 12 (by omega) (by omega)
  rw [List.drop_zero] at this
  exact this)
 have HB := zh (show IPAt w (.slice (some ⟨bp, op + 12, none⟩) 4 (cp - 12)) (p.drop 12) by
  have := hp.part 12 16 (by omega) (by omega)
  rw [List.take_of_length_le (by rw [List.length_drop]; omega)] at this
  exact this)
 rw [Nat.add_zero, Nat.sub_zero] at HA
 have HL := zh (show (p.take 12).length ≤ 1000000 ∧ (p.drop 12).length ≤ 1000000 ∧ q.length ≤ 1000000 by rw [List.length_take, List.length_drop]; omega)
 generalize p.take 12 = qa at HA HL ⊢
 generalize p.drop 12 = qb at HB HL ⊢
 clear hp hq hl hn g1
 obtain ⟨r, hr⟩ : ∃ r : Bool, r = decide (qb = q) := ⟨_, rfl⟩
 obtain ⟨c, hc⟩ : ∃ c : Bool, c = decide (qa = pre4) := ⟨_, rfl⟩
 have HE1 := zh (fun (W : World) (hb : Below w.heap.size w W) (vp : Value) (hpre : SlAt W vp (ipv pre4)) => show Calls Tryz.prog 98 #[.slice (some ⟨bp, op, none⟩) 12 cp, vp] W (BelowPost W (.bool c)) from by
  rw [hc]; exact equal_any _ _ qa pre4 W (HA.out.1.keep hb) hpre HL.out.1 (by decide))
 have HE2 := zh (fun (W : World) (hb : Below w.heap.size w W) => show Calls Tryz.prog 98 #[.slice (some ⟨bp, op + 12, none⟩) 4 (cp - 12), .slice (some ⟨bq, oq, none⟩) 4 cq] W (BelowPost W (.bool r)) from by
  rw [hr]; exact equal_any _ _ qb q W (HB.out.1.keep hb) (HP.out.1.keep hb) HL.out.2.1 HL.out.2.2)
 rw [← hr, ← hc]
 clear hr hc HP HA HB HL
 have y1 : (12 : Int) ≤ (cp : Int) := by omega
 have y2 : (16 : Int) ≤ (cp : Int) := by omega
 have y3 : cp ≠ 12 := by omega
 cases c with
 | false =>
  go_enter Tryz.func68, Tryz.ntmps68
  go_wp2_with fail
  refine wp_region_held_drew (S := (fun w' => Hid (Below w.heap.size w w'))) (by kernel_rfl) ?_ (fun hHeld => ?_)
  ·exact zh (below_drewN (Below.refl w.heap.size w) 1)
  refine zA 0 39 ?v0x18 (by rfl) (by kernel_rfl) (by kernel_rfl) (by kernel_rfl) (by kernel_rfl) (fun _ _ _ _ h => h) (by kernel_rfl) ?hy0x18 (by assumption) ?nx0x18
  case hy0x18 =>
   intro w' hSw
   go_simp
   try with_reducible rfl
  simp only [sA, sB, sC]
  refine zA 1 40 ?v1x19 (by rfl) (by kernel_rfl) (by kernel_rfl) (by kernel_rfl) (by kernel_rfl) (fun _ _ _ _ h => h) (by kernel_rfl) ?hy1x19 (by assumption) ?nx1x19
  case hy1x19 =>
   intro w' hSw
   go_simp
   try with_reducible rfl
  simp only [sA, sB, sC]
  refine wpAnyH_ready (rs := [2]) (by kernel_rfl) (by simp) (AllReadyH.cons (o := _) rfl (fun K hK => ?_) AllReadyH.nil)
  go_simp
  go_at_call 99
  refine (prefix_any _).mono ?_
  rintro e w1 ⟨rfl, hpre, hb1⟩
  have hk1 := zh (below_tr (below_drewN (Below.refl w.heap.size w) 1) hb1)
  clear hb1
  refine hK.out _ _ ?_ (fun hHeld => ?_)
  ·exact hk1
  clear hK K
  try simp only [Act.put, sA, sB, sC]
  refine wpAnyH_ready (rs := [3]) (by kernel_rfl) (by simp) (AllReadyH.cons (o := _) rfl (fun K hK => ?_) AllReadyH.nil)
  go_simp
  go_at_call 98
  refine (HE1.out _ hk1.out _ hpre).mono ?_
  rintro e w2 ⟨rfl, hb2⟩
  have hk2 := zh (below_tr hk1.out hb2)
  clear hb2
  refine hK.out _ _ ?_ (fun hHeld => ?_)
  ·exact hk2
  clear hK K
  try simp only [Act.put, sA, sB, sC]
  refine zA 4 43 ?v4x20 (by rfl) (by kernel_rfl) (by kernel_rfl) (by kernel_rfl) (by kernel_rfl) (fun _ _ _ _ h => h) (by kernel_rfl) ?hy4x20 (by assumption) ?nx4x20
  case hy4x20 =>
   intro w' hSw
   go_simp
   try with_reducible rfl
  simp only [sA, sB, sC]
  refine zL 5 44 (by rfl) (by kernel_rfl) (by kernel_rfl) (by kernel_rfl) (by kernel_rfl) (fun _ _ _ _ h => h) (by kernel_rfl) (by assumption) ?nx5x21
  simp only [sA, sB, sC]
  refine zL 6 45 (by rfl) (by kernel_rfl) (by kernel_rfl) (by kernel_rfl) (by kernel_rfl) (fun _ _ _ _ h => h) (by kernel_rfl) (by assumption) ?nx6x22
  simp only [sA, sB, sC]
  refine zL 7 46 (by rfl) (by kernel_rfl) (by kernel_rfl) (by kernel_rfl) (by kernel_rfl) (fun _ _ _ _ h => h) (by kernel_rfl) (by assumption) ?nx7x23
  simp only [sA, sB, sC]
  refine zL 8 47 (by rfl) (by kernel_rfl) (by kernel_rfl) (by kernel_rfl) (by kernel_rfl) (fun _ _ _ _ h => h) (by kernel_rfl) (by assumption) ?nx8x24
  simp only [sA, sB, sC]
  refine zA 9 48 ?v9x25 (by rfl) (by kernel_rfl) (by kernel_rfl) (by kernel_rfl) (by kernel_rfl) (fun _ _ _ _ h => h) (by kernel_rfl) ?hy9x25 (by assumption) ?nx9x25
  case hy9x25 =>
   intro w' hSw
   go_simp
   try with_reducible rfl
  simp only [sA, sB, sC]
  refine zA 10 4 ?v10x26 (by rfl) (by kernel_rfl) (by kernel_rfl) (by kernel_rfl) (by kernel_rfl) (fun _ _ _ _ h => h) (by kernel_rfl) ?hy10x26 (by assumption) ?nx10x26
  case hy10x26 =>
   intro w' hSw
   go_simp
   try with_reducible rfl
  simp only [sA, sB, sC]
  refine wpAnyH_done (by kernel_rfl) ?_ _
  go_wp2_with fail
  go_ret
  exact ⟨rfl, hk2.out⟩
 | true =>
  go_enter Tryz.func68, Tryz.ntmps68
  go_wp2_with fail
  refine wp_region_held_drew (S := (fun w' => Hid (Below w.heap.size w w'))) (by kernel_rfl) ?_ (fun hHeld => ?_)
  ·exact zh (below_drewN (Below.refl w.heap.size w) 1)
  refine zA 0 39 ?v0x27 (by rfl) (by kernel_rfl) (by kernel_rfl) (by kernel_rfl) (by kernel_rfl) (fun _ _ _ _ h => h) (by kernel_rfl) ?hy0x27 (by assumption) ?nx0x27
  case hy0x27 =>
   intro w' hSw
   go_simp
   try with_reducible rfl
  simp only [sA, sB, sC]
  refine zA 1 40 ?v1x28 (by rfl) (by kernel_rfl) (by kernel_rfl) (by kernel_rfl) (by kernel_rfl) (fun _ _ _ _ h => h) (by kernel_rfl) ?hy1x28 (by assumption) ?nx1x28
  case hy1x28 =>
   intro w' hSw
   go_simp
   try with_reducible rfl
  simp only [sA, sB, sC]
  refine wpAnyH_ready (rs := [2]) (by kernel_rfl) (by simp) (AllReadyH.cons (o := _) rfl (fun K hK => ?_) AllReadyH.nil)
  go_simp
  go_at_call 99
  refine (prefix_any _).mono ?_
  rintro e w1 ⟨rfl, hpre, hb1⟩
  have hk1 := zh (below_tr (below_drewN (Below.refl w.heap.size w) 1) hb1)
  clear hb1
  refine hK.out _ _ ?_ (fun hHeld => ?_)
  ·exact hk1
  clear hK K
  try simp only [Act.put, sA, sB, sC]
  refine wpAnyH_ready (rs := [3]) (by kernel_rfl) (by simp) (AllReadyH.cons (o := _) rfl (fun K hK => ?_) AllReadyH.nil)
  go_simp
  go_at_call 98
  refine (HE1.out _ hk1.out _ hpre).mono ?_
  rintro e w2 ⟨rfl, hb2⟩
  have hk2 := zh (below_tr hk1.out hb2)
  clear hb2
  refine hK.out _ _ ?_ (fun hHeld => ?_)
  ·exact hk2
  clear hK K
  try simp only [Act.put, sA, sB, sC]
  refine zA 4 43 ?v4x29 (by rfl) (by kernel_rfl) (by kernel_rfl) (by kernel_rfl) (by kernel_rfl) (fun _ _ _ _ h => h) (by kernel_rfl) ?hy4x29 (by assumption) ?nx4x29
  case hy4x29 =>
   intro w' hSw
   go_simp
   try with_reducible rfl
  simp only [sA, sB, sC]
  refine zA 5 44 ?v5x30 (by rfl) (by kernel_rfl) (by kernel_rfl) (by kernel_rfl) (by kernel_rfl) (fun _ _ _ _ h => h) (by kernel_rfl) ?hy5x30 (by assumption) ?nx5x30
  case hy5x30 =>
   intro w' hSw
   go_simp
   try with_reducible rfl
  simp only [sA, sB, sC]
  refine zA 6 45 ?v6x31 (by rfl) (by kernel_rfl) (by kernel_rfl) (by kernel_rfl) (by kernel_rfl) (fun _ _ _ _ h => h) (by kernel_rfl) ?hy6x31 (by assumption) ?nx6x31
  case hy6x31 =>
   intro w' hSw
   go_simp
   try with_reducible rfl
  simp only [sA, sB, sC]
  refine zA 7 46 ?v7x32 (by rfl) (by kernel_rfl) (by kernel_rfl) (by kernel_rfl) (by kernel_rfl) (fun _ _ _ _ h => h) (by kernel_rfl) ?hy7x32 (by assumption) ?nx7x32
  case hy7x32 =>
   intro w' hSw
   go_simp
   try with_reducible rfl
  simp only [sA, sB, sC]
  refine wpAnyH_ready (rs := [8]) (by kernel_rfl) (by simp) (AllReadyH.cons (o := _) rfl (fun K hK => ?_) AllReadyH.nil)
  go_simp
  go_at_call 98
  refine (HE2.out _ hk2.out).mono ?_
  rintro e w3 ⟨rfl, hb3⟩
  have hk3 := zh (below_tr hk2.out hb3)
  clear hb3
  refine hK.out _ _ ?_ (fun hHeld => ?_)
  ·exact hk3
  clear hK K
  try simp only [Act.put, sA, sB, sC]
  refine zA 9 48 ?v9x33 (by rfl) (by kernel_rfl) (by kernel_rfl) (by kernel_rfl) (by kernel_rfl) (fun _ _ _ _ h => h) (by kernel_rfl) ?hy9x33 (by assumption) ?nx9x33
  case hy9x33 =>
   intro w' hSw
   go_simp
   try with_reducible rfl
  simp only [sA, sB, sC]
  refine zA 10 4 ?v10x34 (by rfl) (by kernel_rfl) (by kernel_rfl) (by kernel_rfl) (by kernel_rfl) (fun _ _ _ _ h => h) (by kernel_rfl) ?hy10x34 (by assumption) ?nx10x34
  case hy10x34 =>
   intro w' hSw
   go_simp
   try with_reducible rfl
  simp only [sA, sB, sC]
  refine wpAnyH_done (by kernel_rfl) ?_ _
  go_wp2_with fail
  go_ret
  exact ⟨rfl, hk3.out⟩
theorem zjJ {a b : Ad} (oa : a.ok) (ob : b.ok) (h : a.long = b.long) : a = b := by
 obtain ⟨s, n⟩ := a
 obtain ⟨t, m⟩ := b
 unfold Ad.ok at oa ob
 unfold Ad.long at h
 cases s <;> cases t <;> simp only [Bool.false_eq_true, if_false, if_true] at oa ob h
 ·have h1 := congrArg val (List.append_cancel_left h)
  rw [val_b4 _ oa, val_b4 _ ob] at h1
  rw [h1]
 ·have h1 := congrArg (fun l => l.take 1) h
  simp [pre4, pre6] at h1
 ·have h1 := congrArg (fun l => l.take 1) h
  simp [pre4, pre6] at h1
 ·have h1 := congrArg val (List.append_cancel_left h)
  rw [val_b2 _ oa, val_b2 _ ob] at h1
  rw [h1]
theorem zdB {a : Ad} (h : a.six = true) : a.long = a.brief := by unfold Ad.long Ad.brief; rw [if_pos h, if_pos h]
theorem zcB {a : Ad} (h : a.six = false) : a.long.take 12 = pre4 ∧ a.long.drop 12 = a.brief := by
 unfold Ad.long Ad.brief
 rw [if_neg (by rw [h]; decide), if_neg (by rw [h]; decide)]
 exact ⟨rfl, rfl⟩
theorem zbG {a : Ad} (h : a.six = true) : a.long.take 12 ≠ pre4 := by
 unfold Ad.long
 rw [if_pos h]
 intro hh
 have h1 := congrArg (fun l => l.take 1) hh
 simp [pre4, pre6] at h1
theorem yT (u v : Value) (a b : Ad) (w : World) (hu : AdAt w u a) (hv : AdAt w v b) (oa : a.ok) (ob : b.ok) :
  Calls Tryz.prog 68 #[u, v] w (BelowPost w (.bool (decide (a = b)))) := by
 have hu' : LongAt w u a ∨ (a.six = false ∧ BriefAt w u a) := by
  cases h : a.six with
  | false => exact hu.elim .inl (fun h' => .inr ⟨rfl, h'⟩)
  | true => exact .inl (hu.elim (fun h => h) (fun h' => by unfold LongAt; rw [zdB h]; exact h'))
 have hv' : LongAt w v b ∨ (b.six = false ∧ BriefAt w v b) := by
  cases h : b.six with
  | false => exact hv.elim .inl (fun h' => .inr ⟨rfl, h'⟩)
  | true => exact .inl (hv.elim (fun h => h) (fun h' => by unfold LongAt; rw [zdB h]; exact h'))
 have hb4 : ∀ x : Ad, x.six = false → x.brief.length = 4 := fun x h => by rw [Ad.brief_length]; unfold Ad.width; rw [h]; rfl
 rcases hu' with hu' | ⟨sa, hu'⟩ <;> rcases hv' with hv' | ⟨sb, hv'⟩
 ·have := Equal_same u v a.long b.long w hu' hv' (by rw [Ad.long_length, Ad.long_length]) (by rw [Ad.long_length]; omega)
  rw [show decide (a.long = b.long) = decide (a = b) from decide_eq_decide.2 ⟨fun h => zjJ oa ob h, fun h => by rw [h]⟩] at this
  exact this
 ·have := zfS u v a.long b.brief w hu' hv' (Ad.long_length a) (hb4 b sb)
  have e : (decide (a.long.take 12 = pre4) && decide (a.long.drop 12 = b.brief)) = decide (a = b) := by
   cases sa : a.six with
   | false =>
    obtain ⟨h1, h2⟩ := zcB sa
    rw [decide_eq_true h1, h2, Bool.true_and]
    exact decide_eq_decide.2 ⟨fun h => brief_inj oa ob (by rw [sa, sb]) h, fun h => by rw [h]⟩
   | true =>
    rw [decide_eq_false (zbG sa), Bool.false_and, eq_comm]
    exact decide_eq_false (fun h => by rw [h, sb] at sa; cases sa)
  rw [e] at this
  exact this
 ·have := zfR u v a.brief b.long w hu' hv' (hb4 a sa) (Ad.long_length b)
  have e : (decide (b.long.take 12 = pre4) && decide (a.brief = b.long.drop 12)) = decide (a = b) := by
   cases sb : b.six with
   | false =>
    obtain ⟨h1, h2⟩ := zcB sb
    rw [decide_eq_true h1, h2, Bool.true_and]
    exact decide_eq_decide.2 ⟨fun h => brief_inj oa ob (by rw [sa, sb]) h, fun h => by rw [h]⟩
   | true =>
    rw [decide_eq_false (zbG sb), Bool.false_and, eq_comm]
    exact decide_eq_false (fun h => by rw [← h, sa] at sb; cases sb)
  rw [e] at this
  exact this
 ·have := Equal_same u v a.brief b.brief w hu' hv' (by rw [hb4 a sa, hb4 b sb]) (by rw [hb4 a sa]; omega)
  rw [show decide (a.brief = b.brief) = decide (a = b) from decide_eq_decide.2 ⟨fun h => brief_inj oa ob (by rw [sa, sb]) h, fun h => by rw [h]⟩] at this
  exact this
end Go.Proofs.YtnehofekgnbelaaGreatDoor

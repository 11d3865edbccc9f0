/-
  The reference's desk: round.
-/
import Derived.Test.YtnehofekgnbelaaGreatDoorY46
import Derived.BigQuiet
namespace Go.Proofs.YtnehofekgnbelaaGreatDoor
open Go.RowKit
set_option linter.unusedVariables false
set_option maxRecDepth 100000
set_option maxHeartbeats 1000000
def off (l : List RIn) (k : Nat) : Nat := ((l.take k).map fun R => (zC R).n - (zB R).n + 1).sum
theorem zkZ {l : List RIn} {k : Nat} {R : RIn} (h : l[k]? = some R) : off l (k + 1) = off l k + ((zC R).n - (zB R).n + 1) := by
 unfold off
 rw [zbB h, List.map_append, List.sum_append]
 simp
theorem zlL : ∀ (l : List RIn) (k0 i j : Nat) (R : RIn), l[i]? = some R → j ≤ (zC R).n - (zB R).n → (zF k0 l)[off l i + j]? = some (k0 + i, ⟨R.a.six, (zB R).n + j⟩)
 | [], _, _, _, _, h, _ => by cases h
 | Q :: l, k0, 0, j, R, h, hj => by
  obtain rfl : Q = R := by simpa using h
  unfold zF off
  rw [List.getElem?_append_left (by simp [zQ]; omega), List.getElem?_map]
  simp only [List.take_zero, List.map_nil, List.sum_nil, Nat.zero_add]
  rw [yQ Q j (by omega)]
  rfl
 | Q :: l, k0, i + 1, j, R, h, hj => by
  have ih := zlL l (k0 + 1) i j R (by simpa using h) hj
  unfold zF
  have e : off (Q :: l) (i + 1) = ((zC Q).n - (zB Q).n + 1) + off l i := by
   unfold off
   rw [List.take_succ_cons, List.map_cons, List.sum_cons]
  rw [e, List.getElem?_append_right (by simp [zQ]; omega)]
  have e2 : (zC Q).n - (zB Q).n + 1 + off l i + j - ((adsOf Q).map fun a => (k0, a)).length = off l i + j := by
   rw [List.length_map, zQ]
   omega
  rw [e2, ih]
  exact congrArg (fun n => some (n, (⟨R.a.six, (zB R).n + j⟩ : Ad))) (by omega)
theorem ziX : ∀ (l : List RIn) (k0 : Nat), (zF k0 l).length = off l l.length
 | [], _ => rfl
 | Q :: l, k0 => by
  unfold zF
  rw [List.length_append, List.length_map, zQ, ziX l (k0 + 1)]
  unfold off
  rw [List.length_cons, List.take_succ_cons, List.map_cons, List.sum_cons]
def posL (l : List (Nat × Ad)) (last : Option Ad) : Nat := match last with
 | none => 0
 | some a => match l.findIdx? fun p => decide (p.2 = a) with
  | none => 0
  | some k => k + 1
theorem zmD (l : List (Nat × Ad)) (last : Option Ad) : posL l last ≤ l.length := by
 unfold posL
 split
 ·exact Nat.zero_le _
 ·split
  ·exact Nat.zero_le _
  ·rename_i k hk
   exact (List.findIdx?_eq_some_iff_getElem.1 hk).1
theorem ziY {L : List (Nat × Ad)} {m : Nat} {p : Nat × Ad} (hL : L.Pairwise fun p q => p.2 ≠ q.2) (h : L[m]? = some p) (last : Option Ad) : posL (L.take (m + 1)) last = if last = some p.2 then m + 1 else posL (L.take m) last := by
 obtain ⟨hm, e⟩ := List.getElem?_eq_some_iff.1 h
 have et : L.take (m + 1) = L.take m ++ [p] := by rw [List.take_succ_eq_append_getElem hm, e]
 cases last with
 | none => rfl
 | some a =>
  unfold posL
  simp only
  rw [et, List.findIdx?_append]
  by_cases hp : a = p.2
  ·subst hp
   have hn : (L.take m).findIdx? (fun q => decide (q.2 = p.2)) = none := by
    rw [List.findIdx?_eq_none_iff]
    intro q hq
    rw [decide_eq_false_iff_not]
    obtain ⟨i, hi, rfl⟩ := List.mem_iff_getElem.1 hq
    have hi' : i < m := by simp at hi; omega
    rw [List.getElem_take, ← e]
    exact (List.pairwise_iff_getElem.1 hL) i m (by omega) hm hi'
   rw [hn, if_pos rfl]
   simp
   omega
  ·rw [if_neg (fun h => hp (Option.some.inj h))]
   have h1 : ([p] : List (Nat × Ad)).findIdx? (fun q => decide (q.2 = a)) = none := by
    rw [List.findIdx?_eq_none_iff]
    intro q hq
    obtain rfl := List.mem_singleton.1 hq
    rw [decide_eq_false_iff_not]
    exact fun h => hp h.symm
   rw [h1]
   cases (L.take m).findIdx? fun q => decide (q.2 = a) <;> rfl
theorem zlA {L : List (Nat × Ad)} (last : Option Ad) : posL L last % L.length = fromL L last := by
 unfold posL fromL
 cases last with
 | none => simp
 | some a =>
  simp only
  cases L.findIdx? fun p => decide (p.2 = a) with
  | none => simp
  | some k => rfl
def isA (u : Value) : Prop := (∃ b, u = .bool b) ∨ ∃ n : Int, u = .int .u32 n
def isI (u : Value) : Prop := ∃ n : Int, u = .int .i64 n
theorem a_nb (x : UInt8) : ¬ isA (u8v x) := by rintro (⟨_, h⟩ | ⟨_, h⟩) <;> simp [u8v] at h
theorem i_nb (x : UInt8) : ¬ isI (u8v x) := by rintro ⟨_, h⟩; simp [u8v] at h
def aVals (p : Nat × Ad) : List Value := [.bool p.2.six, .int .u32 p.2.n]
def iVals (p : Nat × Ad) : List Value := [.int .i64 p.1]
def flatA (l : List (Nat × Ad)) : List Value := l.flatMap aVals
def flatI (l : List (Nat × Ad)) : List Value := l.flatMap iVals
theorem zbE (l : List (Nat × Ad)) (j c : Nat) (p : Nat × Ad) (hj : l[j]? = some p) (hc : c < 2) : (flatA l)[j * 2 + c]? = (aVals p)[c]? := zbF aVals 2 (fun _ => rfl) l j c p hj hc
theorem zfP (l : List (Nat × Ad)) (j : Nat) (p : Nat × Ad) (hj : l[j]? = some p) : (flatI l)[j]? = some (.int .i64 p.1) := by
 have := zbF iVals 1 (fun _ => rfl) l j 0 p hj (by decide)
 simpa [flatI, iVals] using this
theorem znA : (Tryz.prog.info? 56).map (fun i => (i.zero, i.size, i.bytes)) = some (some (.agg #[.bool false, .int .u32 0]), 2, 8) := by kernel_rfl
theorem znB : (Tryz.prog.info? 3).map (fun i => (i.zero, i.size, i.bytes)) = some (some (.int .i64 0), 1, 8) := by kernel_rfl
theorem zaS (k : Nat) : ∀ u ∈ (Builtin.zeroCells (Value.agg #[.bool false, .int .u32 0]).cells k).toList, isA u := by
 intro u hu
 unfold Builtin.zeroCells at hu
 simp only [Array.toList_map, List.mem_map] at hu
 obtain ⟨i, _, rfl⟩ := hu
 have hlt : i % 2 < 2 := Nat.mod_lt _ (by decide)
 show isA (#[Value.bool false, .int .u32 0][i % 2]!)
 generalize i % 2 = j at hlt
 obtain rfl | rfl : j = 0 ∨ j = 1 := by omega
 ·exact .inl ⟨_, rfl⟩
 ·exact .inr ⟨_, rfl⟩
theorem zaC (k : Nat) : ∀ u ∈ (Builtin.zeroCells (Value.int .i64 0).cells k).toList, isI u := by
 intro u hu
 unfold Builtin.zeroCells at hu
 simp only [Array.toList_map, List.mem_map] at hu
 obtain ⟨i, _, rfl⟩ := hu
 have hlt : i % 1 < 1 := Nat.mod_lt _ (by decide)
 show isI (#[Value.int .i64 0][i % 1]!)
 obtain h : i % 1 = 0 := by omega
 rw [h]
 exact ⟨_, rfl⟩
theorem a_one (p : Nat × Ad) : ∀ u ∈ aVals p, u.oneCell' = true := by
 intro u hu
 simp only [aVals, List.mem_cons, List.not_mem_nil, or_false] at hu
 rcases hu with rfl | rfl <;> rfl
theorem a_is (p : Nat × Ad) : ∀ u ∈ aVals p, isA u := by
 intro u hu
 simp only [aVals, List.mem_cons, List.not_mem_nil, or_false] at hu
 rcases hu with rfl | rfl
 ·exact .inl ⟨_, rfl⟩
 ·exact .inr ⟨_, rfl⟩
structure RoR (w : World) (L : List (Nat × Ad)) (m : Nat) (v4 v5 : Value) (wr : World) : Prop where
 a : RowP wr w.heap.size 56 2 isA v4 m (flatA (L.take m))
 i : RowP wr w.heap.size 3 1 isI v5 m (flatI (L.take m))
 b : Below w.heap.size w wr
theorem RoR.on {w wr w' : World} {L : List (Nat × Ad)} {m : Nat} {v4 v5 : Value} (h : RoR w L m v4 v5 wr) (hb : Below wr.heap.size wr w') : RoR w L m v4 v5 w' := ⟨RowP.on h.a hb, RowP.on h.i hb, below_tr h.b hb⟩
theorem zaJ {L : List (Nat × Ad)} {m : Nat} {p : Nat × Ad} (h : L[m]? = some p) : flatA (L.take (m + 1)) = flatA (L.take m) ++ aVals p := by
 obtain ⟨hm, e⟩ := List.getElem?_eq_some_iff.1 h
 rw [List.take_succ_eq_append_getElem hm, e]
 simp [flatA]
theorem zgQ {L : List (Nat × Ad)} {m : Nat} {p : Nat × Ad} (h : L[m]? = some p) : flatI (L.take (m + 1)) = flatI (L.take m) ++ iVals p := by
 obtain ⟨hm, e⟩ := List.getElem?_eq_some_iff.1 h
 rw [List.take_succ_eq_append_getElem hm, e]
 simp [flatI]
theorem yN (w : World) (base : Nat) (e : TypeId) (size : Nat) (p : Value → Prop) (hb : base ≤ w.heap.size) : OwnP (w.alloc (.cells #[] e)) base e size p w.heap.size 0 0 [] :=
 ⟨by simp, hb, Nat.le_refl _, Nat.zero_le _, #[], heap_alloc_new w _, by simp, by simp, fun u hu => by simp at hu⟩
theorem yO {α : Type} (f : α → List Value) (k : Nat) (hf : ∀ a, (f a).length = k) (l : List α) (F : Nat) (hF : F ≤ l.length) (j : Nat) : ((l.drop F).flatMap f)[j]? = (l.flatMap f)[F * k + j]? := by
 have e : l.flatMap f = (l.take F).flatMap f ++ (l.drop F).flatMap f := by rw [← List.flatMap_append, List.take_append_drop]
 have el : ((l.take F).flatMap f).length = F * k := by rw [zI f k hf, List.length_take, Nat.min_eq_left hF]
 rw [e, List.getElem?_append_right (by omega), el, show F * k + j - F * k = j by omega]
theorem yH {α : Type} (f : α → List Value) (k : Nat) (hf : ∀ a, (f a).length = k) (l : List α) (F : Nat) (hF : F ≤ l.length) (j : Nat) (u : Value) (hu : ((l.take F).flatMap f)[j]? = some u) : (l.flatMap f)[j]? = some u := by
 have e : l.flatMap f = (l.take F).flatMap f ++ (l.drop F).flatMap f := by rw [← List.flatMap_append, List.take_append_drop]
 rw [e, List.getElem?_append_left (List.getElem?_eq_some_iff.1 hu).1]
 exact hu
theorem OwnP.src {w : World} {base : Nat} {e : TypeId} {size : Nat} {p : Value → Prop} {g n cap : Nat} {xs : List Value} (h : OwnP w base e size p g n cap xs) (o : Nat) (ys : List Value) (hy : ∀ j u, ys[j]? = some u → xs[o + j]? = some u) : ∀ j u, ys[j]? = some u → w.cell? ((⟨g, o, none⟩ : Addr).add j) = some u := fun j u hu => by
 have h1 := hy j u hu
 have h2 := (List.getElem?_eq_some_iff.1 h1).1
 rw [Addr.add_lit, h.cell (o + j) (by rw [← h.1]; exact h2)]
 exact h1
theorem OwnP.beside {w w' : World} {base b' : Nat} {e e' : TypeId} {size size' : Nat} {p p' : Value → Prop} {g n cap g' n' cap' : Nat} {xs xs' : List Value} (h : OwnP w base e size p g n cap xs) (k : OwnP w b' e' size' p' g' n' cap' xs') (hg : w.grownBy w' (some g')) (he : e ≠ e') : OwnP w' base e size p g n cap xs := by
 obtain ⟨_, _, _, _, cur, h5, _⟩ := id h
 obtain ⟨_, _, _, _, cur', h5', _⟩ := k
 exact h.past (hg.block g h.lt (fun e1 => yJ h5 h5' he (Option.some.inj e1)))
theorem OwnP.apart {w w' : World} {base : Nat} {e : TypeId} {size : Nat} {p : Value → Prop} {g n cap g' : Nat} {xs : List Value} (h : OwnP w base e size p g n cap xs) (hg : w.grownBy w' (some g')) (hne : g ≠ g') : OwnP w' base e size p g n cap xs :=
 h.past (hg.block g h.lt (fun e1 => hne (Option.some.inj e1)))
theorem zH {P : Program} {ops : Array Oper} {o : Oper} {a : Act} {K : Act → World → Prop} {Q : Exit → Act → World → Prop} {E : Prop} (w : World) (hgd : o.guard = none) (s x : Operand) (t : TypeId)
  (ho : o.op = .call { callee := .builtin .append, args := #[s, x], argTypes := #[t, t] }) (dst : Nat) (hd : o.dst = some dst)
  (base : Nat) (e : TypeId) (i : TypeInfo) (z : Value) (size bytes : Nat) (p : Value → Prop) (ht : P.underlying t = some (.slice e)) (hi : P.info? e = some i) (hz : i.zero = some z)
  (hsize : i.size = size) (hby : i.bytes = bytes) (hzs : z.cells.size = size) (hsz : 0 < size) (hzk : ∀ k, ∀ u ∈ (Builtin.zeroCells z.cells k).toList, p u)
  (g n cap : Nat) (xs : List Value) (hs : a.eval s = .slice (some ⟨g, 0, none⟩) n cap) (hown : OwnP w base e size p g n cap xs)
  (ad : Addr) (m c : Nat) (news : List Value) (hx : a.eval x = .slice (some ad) m c) (hl : news.length = m * size) (hnews : ∀ j u, news[j]? = some u → w.cell? (ad.add j) = some u) (h1 : ∀ u ∈ news, u.oneCell' = true) (hp : ∀ u ∈ news, p u)
  (h63 : n + m ≤ maxLen) (hbytes : (n + m) * bytes ≤ 140737488355328) (hbase : base ≤ w.heap.size)
  (h : ∀ g' cap' w', OwnP w' base e size p g' (n + m) cap' (xs ++ news) → w.grownBy w' (some g) → (g' = g ∨ g' = w.heap.size) → K (a.put (some dst) (.slice (some ⟨g', 0, none⟩) (n + m) cap')) w') :
  if Region.wanted o (yielded ops a.tmps) = true then Oper.wp P o a w K Q else E := by
 have hw : Region.wanted o (yielded ops a.tmps) = true := by simp [Region.wanted, hgd]
 rw [if_pos hw]
 obtain ⟨g', cap', w', hr, h2, h3, h4⟩ := run_append_p (P := P) w base t o.type e i z size bytes p ht hi hz hsize hby hzs hsz hzk g n cap xs hown ad m c news hl hnews h1 hp h63 hbytes hbase
 unfold Oper.wp execOp
 simp only [ho, resolve, invoke, builtin, Sem.run_bind, Sem.run_pure, Result.andThen_ok, List.map_toArray, List.map_cons, List.map_nil, hs, hx, hr]
 have hk := h g' cap' w' h2 h3 h4
 rw [← hd] at hk
 exact hk
theorem zR (l : List (Nat × Ad)) : (∀ u ∈ flatA l, u.oneCell' = true) ∧ ∀ u ∈ flatA l, isA u := by
 refine ⟨fun u hu => ?_, fun u hu => ?_⟩
 ·obtain ⟨p, _, h⟩ := List.mem_flatMap.1 hu
  exact a_one p u h
 ·obtain ⟨p, _, h⟩ := List.mem_flatMap.1 hu
  exact a_is p u h
theorem zO (l : List (Nat × Ad)) : (∀ u ∈ flatI l, u.oneCell' = true) ∧ ∀ u ∈ flatI l, isI u := by
 refine ⟨fun u hu => ?_, fun u hu => ?_⟩
 ·obtain ⟨p, _, h⟩ := List.mem_flatMap.1 hu
  simp only [iVals, List.mem_singleton] at h
  subst h
  rfl
 ·obtain ⟨p, _, h⟩ := List.mem_flatMap.1 hu
  simp only [iVals, List.mem_singleton] at h
  subst h
  exact ⟨_, rfl⟩
structure RSt (w wc : World) (L : List (Nat × Ad)) (g4 g5 cap4 cap5 : Nat) (sA sI : Option (Nat × Nat × Nat × List Value)) : Prop where
 o4 : OwnP wc w.heap.size 56 2 isA g4 L.length cap4 (flatA L)
 o5 : OwnP wc w.heap.size 3 1 isI g5 L.length cap5 (flatI L)
 b : Below w.heap.size w wc
 a : ∀ g n c xs, sA = some (g, n, c, xs) → OwnP wc w.heap.size 56 2 isA g n c xs ∧ g4 ≠ g
 i : ∀ g n c xs, sI = some (g, n, c, xs) → OwnP wc w.heap.size 3 1 isI g n c xs ∧ g5 ≠ g
section
variable {w wc w' : World} {L : List (Nat × Ad)} {g4 g5 cap4 cap5 g n c g' n' c' : Nat} {xs xs' : List Value} {sA sI : Option (Nat × Nat × Nat × List Value)}
theorem RSt.a0 (h : RSt w wc L g4 g5 cap4 cap5 none sI) : RSt w (wc.alloc (.cells #[] 56)) L g4 g5 cap4 cap5 (some (wc.heap.size, 0, 0, [])) sI := by
 have hb : Below wc.heap.size wc (wc.alloc (.cells #[] 56)) := (Below.refl _ _).alloc (Nat.le_refl _) _
 refine ⟨h.o4.on hb, h.o5.on hb, below_tr h.b hb, fun g n c xs e => ?_, fun g n c xs e => ⟨(h.i g n c xs e).1.on hb, (h.i g n c xs e).2⟩⟩
 cases e
 exact ⟨yN wc _ _ _ _ h.b.size, by have := h.o4.lt; omega⟩
theorem RSt.i0 (h : RSt w wc L g4 g5 cap4 cap5 sA none) : RSt w (wc.alloc (.cells #[] 3)) L g4 g5 cap4 cap5 sA (some (wc.heap.size, 0, 0, [])) := by
 have hb : Below wc.heap.size wc (wc.alloc (.cells #[] 3)) := (Below.refl _ _).alloc (Nat.le_refl _) _
 refine ⟨h.o4.on hb, h.o5.on hb, below_tr h.b hb, fun g n c xs e => ⟨(h.a g n c xs e).1.on hb, (h.a g n c xs e).2⟩, fun g n c xs e => ?_⟩
 cases e
 exact ⟨yN wc _ _ _ _ h.b.size, by have := h.o5.lt; omega⟩
theorem RSt.a4 (h : RSt w wc L g4 g5 cap4 cap5 (some (g, n, c, xs)) sI) (ho : OwnP w' w.heap.size 56 2 isA g' n' c' xs') (hg : wc.grownBy w' (some g)) (hgg : g' = g ∨ g' = wc.heap.size) : RSt w w' L g4 g5 cap4 cap5 (some (g', n', c', xs')) sI := by
 obtain ⟨hA, hne⟩ := h.a _ _ _ _ rfl
 refine ⟨h.o4.apart hg hne, h.o5.beside hA hg (by decide), h.b.grown hg h.b.size (fun q hq => by cases hq; exact hA.2.1), fun g1 n1 c1 xs1 e => ?_, fun g1 n1 c1 xs1 e => ⟨(h.i g1 n1 c1 xs1 e).1.beside hA hg (by decide), (h.i g1 n1 c1 xs1 e).2⟩⟩
 cases e
 refine ⟨ho, ?_⟩
 rcases hgg with rfl | rfl
 ·exact hne
 ·have := h.o4.lt
  omega
theorem RSt.i4 (h : RSt w wc L g4 g5 cap4 cap5 sA (some (g, n, c, xs))) (ho : OwnP w' w.heap.size 3 1 isI g' n' c' xs') (hg : wc.grownBy w' (some g)) (hgg : g' = g ∨ g' = wc.heap.size) : RSt w w' L g4 g5 cap4 cap5 sA (some (g', n', c', xs')) := by
 obtain ⟨hI, hne⟩ := h.i _ _ _ _ rfl
 refine ⟨h.o4.beside hI hg (by decide), h.o5.apart hg hne, h.b.grown hg h.b.size (fun q hq => by cases hq; exact hI.2.1), fun g1 n1 c1 xs1 e => ⟨(h.a g1 n1 c1 xs1 e).1.beside hI hg (by decide), (h.a g1 n1 c1 xs1 e).2⟩, fun g1 n1 c1 xs1 e => ?_⟩
 cases e
 refine ⟨ho, ?_⟩
 rcases hgg with rfl | rfl
 ·exact hne
 ·have := h.o5.lt
  omega
end
def zmE (w : World) (L : List (Nat × Ad)) (e : Ending) (w' : World) : Prop := ∃ g g' c c', e = .returned (.tuple #[.slice (some ⟨g, 0, none⟩) L.length c, .slice (some ⟨g', 0, none⟩) L.length c']) ∧ Below w.heap.size w w' ∧
 OwnP w' w.heap.size 56 2 isA g L.length c (flatA L) ∧ OwnP w' w.heap.size 3 1 isI g' L.length c' (flatI L)
theorem zgR (base D : Nat) (Rs : List RIn) (d : Desk) (w : World) (h : SDesk w base D Rs d) (hg : ∀ R ∈ Rs, Good R) (hd : Dis Rs) (hne : 0 < Rs.length) (h4 : Rs.length ≤ 1000) (hlen : (zF 0 Rs).length ≤ 100000) :
  Calls Tryz.prog 92 #[.pointer (some ⟨D, 0, none⟩)] w (zmE w (xB Rs d.last)) := by
 have hpair := zkO hg hd
 have heql : ∀ (w : World) (b b' : Bool) (x y : Int), _ := fun w b b' x y => xF w b b' x y
 have hge : ∀ (op : BinOp) (x y : Operand) (xs ys : Array Value) (w : World), _ := fun op x y xs ys w => yU op x y xs ys w
 have HG := zh hg
 have HAT := zh (zlL Rs 0)
 have hofl := ziX Rs 0
 have hrl : xB Rs d.last = (zF 0 Rs).drop (posL (zF 0 Rs) d.last % (zF 0 Rs).length) ++ (zF 0 Rs).take (posL (zF 0 Rs) d.last % (zF 0 Rs).length) := by rw [zlA]; rfl
 rw [hrl]
 generalize zF 0 Rs = L at hpair HAT hofl hlen ⊢
 have HP := zh hpair
 have HOFL := zh hofl
 obtain ⟨sv, hv, la, hD, hset, hrow, hl⟩ := h.rows
 obtain ⟨av, cv, rfl, hav⟩ := yK hset
 obtain ⟨g, rfl⟩ := hav hne
 have HSET := zh hset
 have HD := zh hD
 have HL := zh hl
 have cT : w.cell? ⟨D, 0, none⟩ = some (.slice (some ⟨g, 0, none⟩) Rs.length cv) := cell_of_row w D 0 _ _ _ hD
 have lT := h.lt
 obtain ⟨i0, hi', hz⟩ := Option.map_eq_some_iff.1 znA
 simp only [Prod.mk.injEq] at hz
 obtain ⟨hz0, hz1, hz2⟩ := hz
 have HI0 := zh hi'
 have HZ0 := zh hz0
 have HZ1 := zh hz1
 have HZ2 := zh hz2
 obtain ⟨j0, hj', hy⟩ := Option.map_eq_some_iff.1 znB
 simp only [Prod.mk.injEq] at hy
 obtain ⟨hy0, hy1, hy2⟩ := hy
 have HJ0 := zh hj'
 have HY0 := zh hy0
 have HY1 := zh hy1
 have HY2 := zh hy2
 clear h hD hset hrow hl hav hi' hz0 hz1 hz2 hj' hy0 hy1 hy2 hg hd hpair hofl hrl
 go_enter Tryz.func92, Tryz.ntmps92
 go_wp2_with fail
 have HST := zh (show RoR w L 0 (.slice (some ⟨w.heap.size, 0, none⟩) 0 0) (.slice (some ⟨w.heap.size + 1, 0, none⟩) 0 0) ((w.alloc (.cells #[] 56)).alloc (.cells #[] 3)) from by
  refine ⟨.inr ⟨_, _, rfl, (yN w w.heap.size _ _ _ (Nat.le_refl _)).on ((Below.refl _ _).alloc (Nat.le_refl _) _)⟩, .inr ⟨_, _, rfl, ?_⟩, ((Below.refl _ _).alloc (Nat.le_refl _) _).alloc (by simp) _⟩
  have := yN (w.alloc (.cells #[] 56)) w.heap.size 3 1 isI (by simp)
  rw [World.size_alloc] at this
  exact this)
 generalize (w.alloc (.cells #[] 56)).alloc (.cells #[] 3) = w0 at HST ⊢
 go_loopw [4, 5, 6, 17] (fun v4 v5 f i wr => ∃ k m : Nat, i = .int .i64 k ∧ k ≤ Rs.length ∧ Hid (m = off Rs k) ∧ f = .int .i64 (posL (L.take m) d.last) ∧ Hid (RoR w L m v4 v5 wr)) (fun _ _ _ i _ => Rs.length - (intOf i).toNat)
 case atStart => exact ⟨0, 0, rfl, by omega, zh (by simp [off]), by simp [posL]; cases d.last <;> rfl, HST⟩
 case round =>
  obtain ⟨k, m, rfl, hk, hm, rfl, hr⟩ := hrel
  by_cases hlt : k < Rs.length
  ·have tk : decide ((k : Int) < Rs.length) = true := decide_eq_true (by omega)
   have hR : Rs[k]? = some Rs[k] := List.getElem?_eq_getElem hlt
   have hRm : Rs[k] ∈ Rs := List.getElem_mem hlt
   generalize Rs[k] = R at hR hRm
   have hset := zbM HSET.out hr.out.b
   have hc : ∀ c, c < 9 → wr.cell? ⟨g, k * 9 + c, none⟩ = (spanL R)[c]? := fun c hc => (hset.cellAt (k * 9 + c) (by omega)).trans (yZ _ _ _ _ hR hc)
   have q0 : wr.cell? ⟨g, k * 9, none⟩ = some (.bool R.a.six) := hc 0 (by decide)
   have q1 : wr.cell? ⟨g, k * 9 + 1, none⟩ = some (.int .u32 R.a.n) := hc 1 (by decide)
   have q2 : wr.cell? ⟨g, k * 9 + 2, none⟩ = some (.int .i64 R.free) := hc 2 (by decide)
   have q3 : wr.cell? ⟨g, k * 9 + 3, none⟩ = some (.bool (zB R).six) := hc 3 (by decide)
   have q4 : wr.cell? ⟨g, k * 9 + 4, none⟩ = some (.int .u32 (zB R).n) := hc 4 (by decide)
   have q5 : wr.cell? ⟨g, k * 9 + 5, none⟩ = some (.bool (zC R).six) := hc 5 (by decide)
   have q6 : wr.cell? ⟨g, k * 9 + 6, none⟩ = some (.int .u32 (zC R).n) := hc 6 (by decide)
   have q7 : wr.cell? ⟨g, k * 9 + 7, none⟩ = some (.bool (zE R).six) := hc 7 (by decide)
   have q8 : wr.cell? ⟨g, k * 9 + 8, none⟩ = some (.int .u32 (zE R).n) := hc 8 (by decide)
   have gz : g < wr.heap.size := World.block_lt_of_cell? wr _ q0
   have hrng := (HG.out R hRm).rng
   have hlast := (HG.out R hRm).ads (a := zC R) (zaG.2 ⟨hrng.l6, hrng.le, Nat.le_refl _⟩)
   have hl32 : (zC R).n < 4294967296 := by unfold Ad.ok at hlast; split at hlast <;> omega
   have hle := hrng.le
   have HRL := zh (fun j hj => HAT.out k j R hR hj)
   have hoff := zkZ hR
   have HR := zh hR
   obtain ⟨LN, hLN⟩ : ∃ LN, LN = (zC R).n := ⟨_, rfl⟩
   obtain ⟨SN, hSN⟩ : ∃ SN, SN = (zB R).n := ⟨_, rfl⟩
   rw [← hLN] at q6 hl32 hle HRL hoff
   rw [← hSN] at q4 hle HRL hoff
   have HOFF := zh hoff
   have HM := hm
   clear hc hset hlast hrng hR hRm hLN hSN hoff hm
   go_wp2_with fail
   have hsp := heap_alloc_new wr (.cells #[.bool R.a.six, .int .u32 R.a.n, .int .i64 R.free, .bool (zB R).six, .int .u32 SN, .bool (zC R).six, .int .u32 LN, .bool (zE R).six, .int .u32 (zE R).n] 63)
   have HRO := zh (hr.out.on ((Below.refl wr.heap.size wr).alloc (Nat.le_refl _) (.cells #[.bool R.a.six, .int .u32 R.a.n, .int .i64 R.free, .bool (zB R).six, .int .u32 SN, .bool (zC R).six, .int .u32 LN, .bool (zE R).six, .int .u32 (zE R).n] 63)))
   obtain ⟨SB, hSB⟩ : ∃ SB, SB = wr.heap.size := ⟨_, rfl⟩
   rw [← hSB] at hsp ⊢
   have HSP := zh hsp
   have HSB := zh (show w.heap.size ≤ SB by rw [hSB]; exact hr.out.b.size)
   clear hsp q0 q1 q2 q3 q4 q5 q6 q7 q8 gz hr hSB
   generalize wr.alloc (.cells #[.bool R.a.six, .int .u32 R.a.n, .int .i64 R.free, .bool (zB R).six, .int .u32 SN, .bool (zC R).six, .int .u32 LN, .bool (zE R).six, .int .u32 (zE R).n] 63) = wS at HSP HRO ⊢
   go_loopw [4, 5, 6, 9] (fun v4 v5 f x wx => ∃ j mm y : Nat, x = .int .u32 y ∧ j ≤ LN - SN ∧ Hid (mm = m + j ∧ y = SN + j) ∧ f = .int .i64 (posL (L.take mm) d.last) ∧ Hid (RoR w L mm v4 v5 wx ∧ wx.heap[SB]? = some (.cells #[.bool R.a.six, .int .u32 R.a.n, .int .i64 R.free, .bool (zB R).six, .int .u32 SN, .bool (zC R).six, .int .u32 LN, .bool (zE R).six, .int .u32 (zE R).n] 63 (0, 0)))) (fun _ _ _ x _ => LN + 1 - (intOf x).toNat)
   case atStart => exact ⟨0, m, SN, rfl, by omega, zh ⟨rfl, rfl⟩, rfl, zh ⟨HRO.out, HSP.out⟩⟩
   case round =>
    obtain ⟨j, mm, y, rfl, hj, hmm, rfl, hx⟩ := hrel
    have hat := HRL.out j hj
    rw [← HM.out, Nat.zero_add, ← hmm.out.1, ← hmm.out.2] at hat
    have hy32 : y ≤ LN := by have := hmm.out.2; omega
    have hml : mm < L.length := (List.getElem?_eq_some_iff.1 hat).1
    obtain ⟨ao4, cap4, rfl, hc41, hc42, _⟩ := hx.out.1.a.form
    obtain ⟨ao5, cap5, rfl, hc51, hc52, _⟩ := hx.out.1.i.form
    have hsp := hx.out.2
    have s0 : wr.cell? ⟨SB, 0, none⟩ = some (.bool R.a.six) := cell_of_row wr SB 0 _ _ _ hsp
    have s6 : wr.cell? ⟨SB, 6, none⟩ = some (.int .u32 LN) := cell_of_row wr SB 6 _ _ _ hsp
    have sl := (Array.getElem?_eq_some_iff.1 hsp).1
    have HLAT := zh hat
    have HX := zh hx.out
    unfold maxLen at hc42 hc52
    clear hat hsp hx
    have HNEWA := zh (show ∀ (i : Nat) (u : Value), (aVals (k, ⟨R.a.six, y⟩))[i]? = some u → (wr.alloc (.cells #[.bool R.a.six, .int .u32 y] 56)).cell? ((⟨wr.heap.size, 0, none⟩ : Addr).add i) = some u from fun i u hu => by
     rw [Addr.add_lit, Nat.zero_add, cell_of_row _ _ i _ _ _ (heap_alloc_new wr _), ← hu, List.getElem?_toArray]
     rfl)
    have HB1 := zh ((Below.refl wr.heap.size wr).alloc (Nat.le_refl _) (.cells #[.bool R.a.six, .int .u32 y] 56))
    have HX1 := zh (HX.out.1.on HB1.out)
    go_wp2_with (focus (at_builtin; go_must (refine zN _ rfl _ _ 165 rfl w.heap.size 56 i0 (.agg #[.bool false, .int .u32 0]) 2 8 isA Tryz.underlying165 HI0.out HZ0.out HZ1.out HZ2.out (by rfl) (by decide) zaS (.slice ao4 mm cap4) mm (flatA (L.take mm)) rfl HX1.out.a ⟨wr.heap.size, 0, none⟩ 1 1 (aVals (k, ⟨R.a.six, y⟩)) rfl rfl HNEWA.out (a_one _) (a_is _) (by decide) (by unfold maxLen; omega) (by omega) HX1.out.b.size ?_)))
    intro g4 c4 w4 hown4 hgr4 _
    have HF4 := zh (show Fr [56] w.heap.size (wr.alloc (.cells #[.bool R.a.six, .int .u32 y] 56)) w4 from HX1.out.a.fr_grown a_nb (by simp) hgr4)
    have HO4 := zh hown4
    have HI4 := zh (HX1.out.i.fr HF4.out (by decide))
    have HB4 := zh (HF4.out.below HX1.out.b HX1.out.b.size)
    have HSP4 := zh (HF4.out.rows _ _ _ _ (row_on HB1.out HX.out.2) (by decide))
    clear hown4 hgr4
    have HNEWI := zh (show ∀ (i : Nat) (u : Value), (iVals (k, ⟨R.a.six, y⟩))[i]? = some u → (w4.alloc (.cells #[.int .i64 (k : Int)] 3)).cell? ((⟨w4.heap.size, 0, none⟩ : Addr).add i) = some u from fun i u hu => by
     rw [Addr.add_lit, Nat.zero_add, cell_of_row _ _ i _ _ _ (heap_alloc_new w4 _), ← hu, List.getElem?_toArray]
     rfl)
    have HB5 := zh ((Below.refl w4.heap.size w4).alloc (Nat.le_refl _) (.cells #[.int .i64 (k : Int)] 3))
    have HI5 := zh (RowP.on HI4.out HB5.out)
    have HBW := zh (below_tr HB4.out HB5.out)
    go_wp2_with (focus (at_builtin; go_must (refine zN _ rfl _ _ 166 rfl w.heap.size 3 j0 (.int .i64 0) 1 8 isI Tryz.underlying166 HJ0.out HY0.out HY1.out HY2.out (by rfl) (by decide) zaC (.slice ao5 mm cap5) mm (flatI (L.take mm)) rfl HI5.out ⟨w4.heap.size, 0, none⟩ 1 1 (iVals (k, ⟨R.a.six, y⟩)) rfl rfl HNEWI.out (fun u hu => by simp only [iVals, List.mem_singleton] at hu; subst hu; rfl) (fun u hu => by simp only [iVals, List.mem_singleton] at hu; subst hu; exact ⟨_, rfl⟩) (by decide) (by unfold maxLen; omega) (by omega) HBW.out.size ?_)))
    intro g5 c5 w5 hown5 hgr5 _
    have hf5 : Fr [3] w.heap.size (w4.alloc (.cells #[.int .i64 (k : Int)] 3)) w5 := HI5.out.fr_grown i_nb (by simp) hgr5
    have hA5 := (HO4.out.on HB5.out).fr hf5 (by decide)
    have HRN := zh (show RoR w L (mm + 1) (.slice (some ⟨g4, 0, none⟩) (mm + 1) c4) (.slice (some ⟨g5, 0, none⟩) (mm + 1) c5) w5 from
     ⟨.inr ⟨g4, c4, rfl, by rw [zaJ HLAT.out]; exact hA5⟩, .inr ⟨g5, c5, rfl, by rw [zgQ HLAT.out]; exact hown5⟩, hf5.below HBW.out HBW.out.size⟩)
    have hsp5 := hf5.rows _ _ _ _ (row_on HB5.out HSP4.out) (by decide)
    have HSP5 := zh hsp5
    have s6' : w5.cell? ⟨SB, 6, none⟩ = some (.int .u32 LN) := cell_of_row w5 SB 6 _ _ _ hsp5
    have sl5 := (Array.getElem?_eq_some_iff.1 hsp5).1
    have a0 : w5.cell? ⟨g4, mm * 2, none⟩ = some (.bool R.a.six) := (hA5.cell (mm * 2) (by omega)).trans (by rw [← zaJ HLAT.out]; exact zbE (L.take (mm + 1)) mm 0 _ (by rw [List.getElem?_take, if_pos (by omega)]; exact HLAT.out) (by decide))
    have a1 : w5.cell? ⟨g4, mm * 2 + 1, none⟩ = some (.int .u32 y) := (hA5.cell (mm * 2 + 1) (by omega)).trans (by rw [← zaJ HLAT.out]; exact zbE (L.take (mm + 1)) mm 1 _ (by rw [List.getElem?_take, if_pos (by omega)]; exact HLAT.out) (by decide))
    have gl4 := hA5.lt
    have hD5 := (HRN.out.b.block D lT).trans HD.out
    have d2 := cell_of_row w5 D 2 _ _ _ hD5
    have d3 := cell_of_row w5 D 3 _ _ _ hD5
    have d4 := cell_of_row w5 D 4 _ _ _ hD5
    have lD5 := (Array.getElem?_eq_some_iff.1 hD5).1
    have hps := ziY HP.out HLAT.out d.last
    obtain ⟨f0, hf0⟩ : ∃ f0, f0 = posL (L.take mm) d.last := ⟨_, rfl⟩
    rw [← hf0] at hps ⊢
    clear hown5 hgr5 hf5 hA5 hsp5 hD5 s0 s6 sl HX HNEWI HNEWA HB5 HI5 HBW HI4 HB4 HSP4 HO4 HF4 HX1 HB1 hf0
    have p1 : (0 : Int) ≤ (mm : Int) := by omega
    cases hdl : d.last with
    | none =>
     have HPOS := zh (show posL (L.take (mm + 1)) d.last = f0 by rw [hps, hdl, if_neg (by simp)])
     rw [hdl] at d4
     simp only [Option.isSome_none] at d4
     clear hps hdl
     go_wp2_with fail
     go_quiet (fail)
     by_cases hye : y = LN
     ·have ty : ((y : Int) == (LN : Int)) = true := by rw [hye]; simp
      have HYE := zh hye
      clear hye
      go_wp2_with fail
      go_roundw
      case rel => exact ⟨k + 1, mm + 1, by simp, by omega, zh (by have := HOFF.out; have := HM.out; have := hmm.out.1; have := hmm.out.2; have := HYE.out; omega), by first | (rw [HPOS.out]; done) | (rw [HPOS.out]; simp), zh (HRN.out.on (below_drewN (Below.refl _ _) nq))⟩
      case measure => simp [intOf]; omega
     ·have ty : ((y : Int) == (LN : Int)) = false := by rw [beq_eq_false_iff_ne]; omega
      have hw : IntKind.u32.wrap ((y : Int) + 1) = ((y + 1 : Nat) : Int) := by rw [IntKind.wrap_u32]; omega
      have HYE := zh (show y < LN by omega)
      clear hye
      go_wp2_with fail
      go_roundw
      case rel => exact ⟨j + 1, mm + 1, y + 1, by simp, by have := hmm.out.2; have := HYE.out; omega, zh ⟨by have := hmm.out.1; omega, by have := hmm.out.2; omega⟩, by first | (rw [HPOS.out]; done) | (rw [HPOS.out]; simp), zh ⟨HRN.out.on (below_drewN (Below.refl _ _) nq), row_on (below_drewN (Below.refl _ _) nq) HSP5.out⟩⟩
      case measure => simp [intOf]; have := HYE.out; omega
    | some b =>
     obtain rfl := HL.out b hdl
     rw [hdl] at d4
     simp only [Option.isSome_some] at d4
     by_cases e : (⟨R.a.six, y⟩ : Ad) = la
     ·have HPOS := zh (show posL (L.take (mm + 1)) d.last = mm + 1 by rw [hps, hdl, if_pos (by rw [e])])
      have te : ((R.a.six == la.six) && ((y : Int) == (la.n : Int))) = true := by
       have := xT ⟨R.a.six, y⟩ la
       rw [decide_eq_true e] at this
       exact this
      clear hps hdl e
      go_wp2_with fail
      go_quiet (fail)
      by_cases hye : y = LN
      ·have ty : ((y : Int) == (LN : Int)) = true := by rw [hye]; simp
       have HYE := zh hye
       clear hye
       go_wp2_with fail
       go_roundw
       case rel => exact ⟨k + 1, mm + 1, by simp, by omega, zh (by have := HOFF.out; have := HM.out; have := hmm.out.1; have := hmm.out.2; have := HYE.out; omega), by first | (rw [HPOS.out]; done) | (rw [HPOS.out]; simp), zh (HRN.out.on (below_drewN (Below.refl _ _) nq))⟩
       case measure => simp [intOf]; omega
      ·have ty : ((y : Int) == (LN : Int)) = false := by rw [beq_eq_false_iff_ne]; omega
       have hw : IntKind.u32.wrap ((y : Int) + 1) = ((y + 1 : Nat) : Int) := by rw [IntKind.wrap_u32]; omega
       have HYE := zh (show y < LN by omega)
       clear hye
       go_wp2_with fail
       go_roundw
       case rel => exact ⟨j + 1, mm + 1, y + 1, by simp, by have := hmm.out.2; have := HYE.out; omega, zh ⟨by have := hmm.out.1; omega, by have := hmm.out.2; omega⟩, by first | (rw [HPOS.out]; done) | (rw [HPOS.out]; simp), zh ⟨HRN.out.on (below_drewN (Below.refl _ _) nq), row_on (below_drewN (Below.refl _ _) nq) HSP5.out⟩⟩
       case measure => simp [intOf]; have := HYE.out; omega
     ·have HPOS := zh (show posL (L.take (mm + 1)) d.last = f0 by rw [hps, hdl, if_neg (fun h => e (Option.some.inj h).symm)])
      have te : ((R.a.six == la.six) && ((y : Int) == (la.n : Int))) = false := by
       have := xT ⟨R.a.six, y⟩ la
       rw [decide_eq_false e] at this
       exact this
      clear hps hdl e
      go_wp2_with fail
      go_quiet (fail)
      by_cases hye : y = LN
      ·have ty : ((y : Int) == (LN : Int)) = true := by rw [hye]; simp
       have HYE := zh hye
       clear hye
       go_wp2_with fail
       go_roundw
       case rel => exact ⟨k + 1, mm + 1, by simp, by omega, zh (by have := HOFF.out; have := HM.out; have := hmm.out.1; have := hmm.out.2; have := HYE.out; omega), by first | (rw [HPOS.out]; done) | (rw [HPOS.out]; simp), zh (HRN.out.on (below_drewN (Below.refl _ _) nq))⟩
       case measure => simp [intOf]; omega
      ·have ty : ((y : Int) == (LN : Int)) = false := by rw [beq_eq_false_iff_ne]; omega
       have hw : IntKind.u32.wrap ((y : Int) + 1) = ((y + 1 : Nat) : Int) := by rw [IntKind.wrap_u32]; omega
       have HYE := zh (show y < LN by omega)
       clear hye
       go_wp2_with fail
       go_roundw
       case rel => exact ⟨j + 1, mm + 1, y + 1, by simp, by have := hmm.out.2; have := HYE.out; omega, zh ⟨by have := hmm.out.1; omega, by have := hmm.out.2; omega⟩, by first | (rw [HPOS.out]; done) | (rw [HPOS.out]; simp), zh ⟨HRN.out.on (below_drewN (Below.refl _ _) nq), row_on (below_drewN (Below.refl _ _) nq) HSP5.out⟩⟩
       case measure => simp [intOf]; have := HYE.out; omega
  ·obtain rfl : k = Rs.length := by omega
   have tk : decide ((Rs.length : Int) < Rs.length) = false := decide_eq_false (by omega)
   have hmL : m = L.length := by rw [hm.out, HOFL.out]
   subst hmL
   rw [List.take_length]
   have hL0 : 0 < L.length := by
    have := HAT.out 0 0 Rs[0] (List.getElem?_eq_getElem hne) (Nat.zero_le _)
    have := (List.getElem?_eq_some_iff.1 this).1
    omega
   obtain ⟨ao4, cap4, rfl, hc41, hc42, hn4, hs4⟩ := hr.out.a.form
   obtain ⟨ao5, cap5, rfl, hc51, hc52, hn5, hs5⟩ := hr.out.i.form
   obtain ⟨g4, rfl, ho4⟩ : ∃ g4, ao4 = some ⟨g4, 0, none⟩ ∧ OwnP wr w.heap.size 56 2 isA g4 L.length cap4 (flatA (L.take L.length)) := by
    cases ao4 with
    | none => have := (hn4 rfl).1; omega
    | some a => obtain ⟨g4, rfl, ho⟩ := hs4 a rfl; exact ⟨g4, rfl, ho⟩
   obtain ⟨g5, rfl, ho5⟩ : ∃ g5, ao5 = some ⟨g5, 0, none⟩ ∧ OwnP wr w.heap.size 3 1 isI g5 L.length cap5 (flatI (L.take L.length)) := by
    cases ao5 with
    | none => have := (hn5 rfl).1; omega
    | some a => obtain ⟨g5, rfl, ho⟩ := hs5 a rfl; exact ⟨g5, rfl, ho⟩
   rw [List.take_length] at ho4 ho5
   have HO4 := zh ho4
   have HO5 := zh ho5
   have HBR := zh hr.out.b
   have hpl := zmD L d.last
   obtain ⟨ps, hps⟩ : ∃ ps, ps = posL L d.last := ⟨_, rfl⟩
   rw [← hps] at hpl ⊢
   obtain ⟨F, hF⟩ : ∃ F, F = ps % L.length := ⟨_, rfl⟩
   rw [← hF]
   have hFL : F < L.length := by rw [hF]; exact Nat.mod_lt _ hL0
   have hFi : ((ps : Int) % (L.length : Int)) = (F : Int) := by rw [hF]; omega
   unfold maxLen at hc42 hc52
   have HPS := zh hps
   have HF := zh hF
   have hbd : Below wr.heap.size wr wr.drew := below_drewN (Below.refl _ _) 1
   have HO4' := zh (HO4.out.on hbd)
   have HO5' := zh (HO5.out.on hbd)
   have HBR' := zh (below_tr HBR.out hbd)
   clear hs4 hs5 hn4 hn5 ho4 ho5 hr hps hF HO4 HO5 HBR hbd
   go_wp2_with fail
   rw [hFi]
   have q0 : (0 : Int) ≤ (F : Int) := by omega
   have q1 : F ≤ L.length := by omega
   have q2 : ¬ cap4 = F := by omega
   have q3 : ¬ cap5 = F := by omega
   have q4 : F ≤ cap4 := by omega
   have q5 : F ≤ cap5 := by omega
   refine wp_region_held_drew (S := (fun _ => True)) (by kernel_rfl) ?_ (fun hHeld => ?_)
   ·trivial
   have HS := zh (show RSt w wr.drew L g4 g5 cap4 cap5 none none from ⟨HO4'.out, HO5'.out, HBR'.out, fun g n c xs h => (by cases h), fun g n c xs h => (by cases h)⟩)
   clear HO4' HO5' HBR'
   generalize wr.drew = wc at HS ⊢
   refine zA 1 69 ?v1x1 (by rfl) (by kernel_rfl) (by kernel_rfl) (by kernel_rfl) (by kernel_rfl) (fun _ _ _ _ h => h) (by kernel_rfl) ?hy1x1 (by assumption) ?nx1x1
   case hy1x1 =>
    intro w' hSw
    go_simp
    try with_reducible rfl
   simp only [sA, sB, sC]
   refine zA 2 70 ?v2x2 (by rfl) (by kernel_rfl) (by kernel_rfl) (by kernel_rfl) (by kernel_rfl) (fun _ _ _ _ h => h) (by kernel_rfl) ?hy2x2 (by assumption) ?nx2x2
   case hy2x2 =>
    intro w' hSw
    go_simp
    try with_reducible rfl
   simp only [sA, sB, sC]
   refine zA 3 71 ?v3x3 (by rfl) (by kernel_rfl) (by kernel_rfl) (by kernel_rfl) (by kernel_rfl) (fun _ _ _ _ h => h) (by kernel_rfl) ?hy3x3 (by assumption) ?nx3x3
   case hy3x3 =>
    intro w' hSw
    go_simp
    try with_reducible rfl
   simp only [sA, sB, sC]
   refine zA 5 73 ?v5x4 (by rfl) (by kernel_rfl) (by kernel_rfl) (by kernel_rfl) (by kernel_rfl) (fun _ _ _ _ h => h) (by kernel_rfl) ?hy5x4 (by assumption) ?nx5x4
   case hy5x4 =>
    intro w' hSw
    go_simp
    try with_reducible rfl
   simp only [sA, sB, sC]
   refine zA 6 74 ?v6x5 (by rfl) (by kernel_rfl) (by kernel_rfl) (by kernel_rfl) (by kernel_rfl) (fun _ _ _ _ h => h) (by kernel_rfl) ?hy6x5 (by assumption) ?nx6x5
   case hy6x5 =>
    intro w' hSw
    go_simp
    try with_reducible rfl
   simp only [sA, sB, sC]
   refine zA 7 75 ?v7x6 (by rfl) (by kernel_rfl) (by kernel_rfl) (by kernel_rfl) (by kernel_rfl) (fun _ _ _ _ h => h) (by kernel_rfl) ?hy7x6 (by assumption) ?nx7x6
   case hy7x6 =>
    intro w' hSw
    go_simp
    try with_reducible rfl
   simp only [sA, sB, sC]
   refine zA 10 78 ?v10x7 (by rfl) (by kernel_rfl) (by kernel_rfl) (by kernel_rfl) (by kernel_rfl) (fun _ _ _ _ h => h) (by kernel_rfl) ?hy10x7 (by assumption) ?nx10x7
   case hy10x7 =>
    intro w' hSw
    go_simp
    try with_reducible rfl
   simp only [sA, sB, sC]
   refine zA 11 79 ?v11x8 (by rfl) (by kernel_rfl) (by kernel_rfl) (by kernel_rfl) (by kernel_rfl) (fun _ _ _ _ h => h) (by kernel_rfl) ?hy11x8 (by assumption) ?nx11x8
   case hy11x8 =>
    intro w' hSw
    go_simp
    try with_reducible rfl
   simp only [sA, sB, sC]
   refine zA 12 80 ?v12x9 (by rfl) (by kernel_rfl) (by kernel_rfl) (by kernel_rfl) (by kernel_rfl) (fun _ _ _ _ h => h) (by kernel_rfl) ?hy12x9 (by assumption) ?nx12x9
   case hy12x9 =>
    intro w' hSw
    go_simp
    try with_reducible rfl
   simp only [sA, sB, sC]
   refine zA 14 82 ?v14x10 (by rfl) (by kernel_rfl) (by kernel_rfl) (by kernel_rfl) (by kernel_rfl) (fun _ _ _ _ h => h) (by kernel_rfl) ?hy14x10 (by assumption) ?nx14x10
   case hy14x10 =>
    intro w' hSw
    go_simp
    try with_reducible rfl
   simp only [sA, sB, sC]
   refine zA 15 83 ?v15x11 (by rfl) (by kernel_rfl) (by kernel_rfl) (by kernel_rfl) (by kernel_rfl) (fun _ _ _ _ h => h) (by kernel_rfl) ?hy15x11 (by assumption) ?nx15x11
   case hy15x11 =>
    intro w' hSw
    go_simp
    try with_reducible rfl
   simp only [sA, sB, sC]
   refine zA 16 84 ?v16x12 (by rfl) (by kernel_rfl) (by kernel_rfl) (by kernel_rfl) (by kernel_rfl) (fun _ _ _ _ h => h) (by kernel_rfl) ?hy16x12 (by assumption) ?nx16x12
   case hy16x12 =>
    intro w' hSw
    go_simp
    try with_reducible rfl
   simp only [sA, sB, sC]
   refine wpAnyH_ready (rs := [0, 9]) (by kernel_rfl) (by simp) (AllReadyH.cons (o := _) rfl (fun K hK => ?a0) (AllReadyH.cons (o := _) rfl (fun K hK => ?a9) AllReadyH.nil))
   case a0 =>
    go_simp
    obtain ⟨gA, hgA⟩ : ∃ gA, gA = wc.heap.size := ⟨_, rfl⟩
    have hs1 := HS.out.a0
    rw [← hgA] at hs1
    refine hK.out _ _ trivial (fun hHeld => ?_)
    clear hK K HS
    try simp only [Act.put, sA, sB, sC]
    rw [← hgA]
    have HS := zh hs1
    clear hs1 hgA
    generalize wc.alloc (.cells #[] 56) = wc at HS ⊢
    refine wpAnyH_ready (rs := [4, 9]) (by kernel_rfl) (by simp) (AllReadyH.cons (o := _) rfl (fun K hK => ?b4) (AllReadyH.cons (o := _) rfl (fun K hK => ?b9) AllReadyH.nil))
    case b4 =>
     refine zH _ (by rfl) _ _ 165 (by rfl) 72 (by rfl) w.heap.size 56 i0 (.agg #[.bool false, .int .u32 0]) 2 8 isA Tryz.underlying165 HI0.out HZ0.out HZ1.out HZ2.out (by rfl) (by decide) zaS gA 0 0 [] (by rfl) (HS.out.a _ _ _ _ rfl).1 ⟨g4, F * 2, none⟩ (L.length - F) (cap4 - F) (flatA (L.drop F)) (by rfl) (by unfold flatA; rw [zI aVals 2 (fun _ => rfl), List.length_drop]) (HS.out.o4.src (F * 2) _ (fun j u hu => by unfold flatA at hu ⊢; rw [yO aVals 2 (fun _ => rfl) L F q1 j] at hu; exact hu)) (zR _).1 (zR _).2 (by unfold maxLen; omega) (by omega) HS.out.b.size ?_
     intro gA cA wc hown hg hgg
     simp only [Nat.zero_add, List.nil_append] at hown ⊢
     have hs1 := HS.out.a4 hown hg hgg
     refine hK.out _ _ trivial (fun hHeld => ?_)
     clear hK K HS hown hg hgg
     try simp only [Act.put, sA, sB, sC]
     have HS := zh hs1
     clear hs1
     refine wpAnyH_ready (rs := [8, 9]) (by kernel_rfl) (by simp) (AllReadyH.cons (o := _) rfl (fun K hK => ?c8) (AllReadyH.cons (o := _) rfl (fun K hK => ?c9) AllReadyH.nil))
     case c8 =>
      refine zH _ (by rfl) _ _ 165 (by rfl) 76 (by rfl) w.heap.size 56 i0 (.agg #[.bool false, .int .u32 0]) 2 8 isA Tryz.underlying165 HI0.out HZ0.out HZ1.out HZ2.out (by rfl) (by decide) zaS gA (L.length - F) cA (flatA (L.drop F)) (by rfl) (HS.out.a _ _ _ _ rfl).1 ⟨g4, 0, none⟩ F cap4 (flatA (L.take F)) (by rfl) (by unfold flatA; rw [zI aVals 2 (fun _ => rfl), List.length_take, Nat.min_eq_left q1]) (HS.out.o4.src 0 _ (fun j u hu => by rw [Nat.zero_add]; exact yH aVals 2 (fun _ => rfl) L F q1 j u hu)) (zR _).1 (zR _).2 (by unfold maxLen; omega) (by omega) HS.out.b.size ?_
      intro gA cA wc hown hg hgg
      rw [Nat.sub_add_cancel q1] at hown ⊢
      have hs1 := HS.out.a4 hown hg hgg
      refine hK.out _ _ trivial (fun hHeld => ?_)
      clear hK K HS hown hg hgg
      try simp only [Act.put, sA, sB, sC]
      have HS := zh hs1
      clear hs1
      refine wpAnyH_ready (rs := [9]) (by kernel_rfl) (by simp) (AllReadyH.cons (o := _) rfl (fun K hK => ?_) AllReadyH.nil)
      go_simp
      obtain ⟨gI, hgI⟩ : ∃ gI, gI = wc.heap.size := ⟨_, rfl⟩
      have hs1 := HS.out.i0
      rw [← hgI] at hs1
      refine hK.out _ _ trivial (fun hHeld => ?_)
      clear hK K HS
      try simp only [Act.put, sA, sB, sC]
      rw [← hgI]
      have HS := zh hs1
      clear hs1 hgI
      generalize wc.alloc (.cells #[] 3) = wc at HS ⊢
      refine wpAnyH_ready (rs := [13]) (by kernel_rfl) (by simp) (AllReadyH.cons (o := _) rfl (fun K hK => ?_) AllReadyH.nil)
      refine zH _ (by rfl) _ _ 166 (by rfl) 81 (by rfl) w.heap.size 3 j0 (.int .i64 0) 1 8 isI Tryz.underlying166 HJ0.out HY0.out HY1.out HY2.out (by rfl) (by decide) zaC gI 0 0 [] (by rfl) (HS.out.i _ _ _ _ rfl).1 ⟨g5, F, none⟩ (L.length - F) (cap5 - F) (flatI (L.drop F)) (by rfl) (by unfold flatI; rw [zI iVals 1 (fun _ => rfl), List.length_drop]) (HS.out.o5.src F _ (fun j u hu => by unfold flatI at hu ⊢; rw [yO iVals 1 (fun _ => rfl) L F q1 j, Nat.mul_one] at hu; exact hu)) (zO _).1 (zO _).2 (by unfold maxLen; omega) (by omega) HS.out.b.size ?_
      intro gI cI wc hown hg hgg
      simp only [Nat.zero_add, List.nil_append] at hown ⊢
      have hs1 := HS.out.i4 hown hg hgg
      refine hK.out _ _ trivial (fun hHeld => ?_)
      clear hK K HS hown hg hgg
      try simp only [Act.put, sA, sB, sC]
      have HS := zh hs1
      clear hs1
      refine wpAnyH_ready (rs := [17]) (by kernel_rfl) (by simp) (AllReadyH.cons (o := _) rfl (fun K hK => ?_) AllReadyH.nil)
      refine zH _ (by rfl) _ _ 166 (by rfl) 85 (by rfl) w.heap.size 3 j0 (.int .i64 0) 1 8 isI Tryz.underlying166 HJ0.out HY0.out HY1.out HY2.out (by rfl) (by decide) zaC gI (L.length - F) cI (flatI (L.drop F)) (by rfl) (HS.out.i _ _ _ _ rfl).1 ⟨g5, 0, none⟩ F cap5 (flatI (L.take F)) (by rfl) (by unfold flatI; rw [zI iVals 1 (fun _ => rfl), List.length_take, Nat.min_eq_left q1]) (HS.out.o5.src 0 _ (fun j u hu => by rw [Nat.zero_add]; exact yH iVals 1 (fun _ => rfl) L F q1 j u hu)) (zO _).1 (zO _).2 (by unfold maxLen; omega) (by omega) HS.out.b.size ?_
      intro gI cI wc hown hg hgg
      rw [Nat.sub_add_cancel q1] at hown ⊢
      have hs1 := HS.out.i4 hown hg hgg
      refine hK.out _ _ trivial (fun hHeld => ?_)
      clear hK K HS hown hg hgg
      try simp only [Act.put, sA, sB, sC]
      have HS := zh hs1
      clear hs1
      refine zA 18 2 ?v18x13 (by rfl) (by kernel_rfl) (by kernel_rfl) (by kernel_rfl) (by kernel_rfl) (fun _ _ _ _ h => h) (by kernel_rfl) ?hy18x13 (by assumption) ?nx18x13
      case hy18x13 =>
       intro w' hSw
       go_simp
       try with_reducible rfl
      try simp only [sA, sB, sC]
      refine zA 19 3 ?v19x14 (by rfl) (by kernel_rfl) (by kernel_rfl) (by kernel_rfl) (by kernel_rfl) (fun _ _ _ _ h => h) (by kernel_rfl) ?hy19x14 (by assumption) ?nx19x14
      case hy19x14 =>
       intro w' hSw
       go_simp
       try with_reducible rfl
      try simp only [sA, sB, sC]
      refine wpAnyH_done (by kernel_rfl) ?_ _
      go_wp2_with fail
      go_ret2
      rw [← HPS.out, ← HF.out]
      have hA := (HS.out.a _ _ _ _ rfl).1
      have hI := (HS.out.i _ _ _ _ rfl).1
      have hlen' : (L.drop F ++ L.take F).length = L.length := by rw [List.length_append, List.length_drop, List.length_take]; omega
      have eA : flatA (L.drop F) ++ flatA (L.take F) = flatA (L.drop F ++ L.take F) := by simp [flatA]
      have eI : flatI (L.drop F) ++ flatI (L.take F) = flatI (L.drop F ++ L.take F) := by simp [flatI]
      rw [eA] at hA
      rw [eI] at hI
      exact ⟨gA, gI, cA, cI, by rw [hlen']; rfl, HS.out.b, by rw [hlen']; exact hA, by rw [hlen']; exact hI⟩
     case c9 =>
      go_simp
      obtain ⟨gI, hgI⟩ : ∃ gI, gI = wc.heap.size := ⟨_, rfl⟩
      have hs1 := HS.out.i0
      rw [← hgI] at hs1
      refine hK.out _ _ trivial (fun hHeld => ?_)
      clear hK K HS
      try simp only [Act.put, sA, sB, sC]
      rw [← hgI]
      have HS := zh hs1
      clear hs1 hgI
      generalize wc.alloc (.cells #[] 3) = wc at HS ⊢
      refine wpAnyH_ready (rs := [8]) (by kernel_rfl) (by simp) (AllReadyH.cons (o := _) rfl (fun K hK => ?_) AllReadyH.nil)
      refine zH _ (by rfl) _ _ 165 (by rfl) 76 (by rfl) w.heap.size 56 i0 (.agg #[.bool false, .int .u32 0]) 2 8 isA Tryz.underlying165 HI0.out HZ0.out HZ1.out HZ2.out (by rfl) (by decide) zaS gA (L.length - F) cA (flatA (L.drop F)) (by rfl) (HS.out.a _ _ _ _ rfl).1 ⟨g4, 0, none⟩ F cap4 (flatA (L.take F)) (by rfl) (by unfold flatA; rw [zI aVals 2 (fun _ => rfl), List.length_take, Nat.min_eq_left q1]) (HS.out.o4.src 0 _ (fun j u hu => by rw [Nat.zero_add]; exact yH aVals 2 (fun _ => rfl) L F q1 j u hu)) (zR _).1 (zR _).2 (by unfold maxLen; omega) (by omega) HS.out.b.size ?_
      intro gA cA wc hown hg hgg
      rw [Nat.sub_add_cancel q1] at hown ⊢
      have hs1 := HS.out.a4 hown hg hgg
      refine hK.out _ _ trivial (fun hHeld => ?_)
      clear hK K HS hown hg hgg
      try simp only [Act.put, sA, sB, sC]
      have HS := zh hs1
      clear hs1
      refine wpAnyH_ready (rs := [13]) (by kernel_rfl) (by simp) (AllReadyH.cons (o := _) rfl (fun K hK => ?_) AllReadyH.nil)
      refine zH _ (by rfl) _ _ 166 (by rfl) 81 (by rfl) w.heap.size 3 j0 (.int .i64 0) 1 8 isI Tryz.underlying166 HJ0.out HY0.out HY1.out HY2.out (by rfl) (by decide) zaC gI 0 0 [] (by rfl) (HS.out.i _ _ _ _ rfl).1 ⟨g5, F, none⟩ (L.length - F) (cap5 - F) (flatI (L.drop F)) (by rfl) (by unfold flatI; rw [zI iVals 1 (fun _ => rfl), List.length_drop]) (HS.out.o5.src F _ (fun j u hu => by unfold flatI at hu ⊢; rw [yO iVals 1 (fun _ => rfl) L F q1 j, Nat.mul_one] at hu; exact hu)) (zO _).1 (zO _).2 (by unfold maxLen; omega) (by omega) HS.out.b.size ?_
      intro gI cI wc hown hg hgg
      simp only [Nat.zero_add, List.nil_append] at hown ⊢
      have hs1 := HS.out.i4 hown hg hgg
      refine hK.out _ _ trivial (fun hHeld => ?_)
      clear hK K HS hown hg hgg
      try simp only [Act.put, sA, sB, sC]
      have HS := zh hs1
      clear hs1
      refine wpAnyH_ready (rs := [17]) (by kernel_rfl) (by simp) (AllReadyH.cons (o := _) rfl (fun K hK => ?_) AllReadyH.nil)
      refine zH _ (by rfl) _ _ 166 (by rfl) 85 (by rfl) w.heap.size 3 j0 (.int .i64 0) 1 8 isI Tryz.underlying166 HJ0.out HY0.out HY1.out HY2.out (by rfl) (by decide) zaC gI (L.length - F) cI (flatI (L.drop F)) (by rfl) (HS.out.i _ _ _ _ rfl).1 ⟨g5, 0, none⟩ F cap5 (flatI (L.take F)) (by rfl) (by unfold flatI; rw [zI iVals 1 (fun _ => rfl), List.length_take, Nat.min_eq_left q1]) (HS.out.o5.src 0 _ (fun j u hu => by rw [Nat.zero_add]; exact yH iVals 1 (fun _ => rfl) L F q1 j u hu)) (zO _).1 (zO _).2 (by unfold maxLen; omega) (by omega) HS.out.b.size ?_
      intro gI cI wc hown hg hgg
      rw [Nat.sub_add_cancel q1] at hown ⊢
      have hs1 := HS.out.i4 hown hg hgg
      refine hK.out _ _ trivial (fun hHeld => ?_)
      clear hK K HS hown hg hgg
      try simp only [Act.put, sA, sB, sC]
      have HS := zh hs1
      clear hs1
      refine zA 18 2 ?v18x15 (by rfl) (by kernel_rfl) (by kernel_rfl) (by kernel_rfl) (by kernel_rfl) (fun _ _ _ _ h => h) (by kernel_rfl) ?hy18x15 (by assumption) ?nx18x15
      case hy18x15 =>
       intro w' hSw
       go_simp
       try with_reducible rfl
      try simp only [sA, sB, sC]
      refine zA 19 3 ?v19x16 (by rfl) (by kernel_rfl) (by kernel_rfl) (by kernel_rfl) (by kernel_rfl) (fun _ _ _ _ h => h) (by kernel_rfl) ?hy19x16 (by assumption) ?nx19x16
      case hy19x16 =>
       intro w' hSw
       go_simp
       try with_reducible rfl
      try simp only [sA, sB, sC]
      refine wpAnyH_done (by kernel_rfl) ?_ _
      go_wp2_with fail
      go_ret2
      rw [← HPS.out, ← HF.out]
      have hA := (HS.out.a _ _ _ _ rfl).1
      have hI := (HS.out.i _ _ _ _ rfl).1
      have hlen' : (L.drop F ++ L.take F).length = L.length := by rw [List.length_append, List.length_drop, List.length_take]; omega
      have eA : flatA (L.drop F) ++ flatA (L.take F) = flatA (L.drop F ++ L.take F) := by simp [flatA]
      have eI : flatI (L.drop F) ++ flatI (L.take F) = flatI (L.drop F ++ L.take F) := by simp [flatI]
      rw [eA] at hA
      rw [eI] at hI
      exact ⟨gA, gI, cA, cI, by rw [hlen']; rfl, HS.out.b, by rw [hlen']; exact hA, by rw [hlen']; exact hI⟩
    case b9 =>
     go_simp
     obtain ⟨gI, hgI⟩ : ∃ gI, gI = wc.heap.size := ⟨_, rfl⟩
     have hs1 := HS.out.i0
     rw [← hgI] at hs1
     refine hK.out _ _ trivial (fun hHeld => ?_)
     clear hK K HS
     try simp only [Act.put, sA, sB, sC]
     rw [← hgI]
     have HS := zh hs1
     clear hs1 hgI
     generalize wc.alloc (.cells #[] 3) = wc at HS ⊢
     refine wpAnyH_ready (rs := [4]) (by kernel_rfl) (by simp) (AllReadyH.cons (o := _) rfl (fun K hK => ?_) AllReadyH.nil)
     refine zH _ (by rfl) _ _ 165 (by rfl) 72 (by rfl) w.heap.size 56 i0 (.agg #[.bool false, .int .u32 0]) 2 8 isA Tryz.underlying165 HI0.out HZ0.out HZ1.out HZ2.out (by rfl) (by decide) zaS gA 0 0 [] (by rfl) (HS.out.a _ _ _ _ rfl).1 ⟨g4, F * 2, none⟩ (L.length - F) (cap4 - F) (flatA (L.drop F)) (by rfl) (by unfold flatA; rw [zI aVals 2 (fun _ => rfl), List.length_drop]) (HS.out.o4.src (F * 2) _ (fun j u hu => by unfold flatA at hu ⊢; rw [yO aVals 2 (fun _ => rfl) L F q1 j] at hu; exact hu)) (zR _).1 (zR _).2 (by unfold maxLen; omega) (by omega) HS.out.b.size ?_
     intro gA cA wc hown hg hgg
     simp only [Nat.zero_add, List.nil_append] at hown ⊢
     have hs1 := HS.out.a4 hown hg hgg
     refine hK.out _ _ trivial (fun hHeld => ?_)
     clear hK K HS hown hg hgg
     try simp only [Act.put, sA, sB, sC]
     have HS := zh hs1
     clear hs1
     refine wpAnyH_ready (rs := [8]) (by kernel_rfl) (by simp) (AllReadyH.cons (o := _) rfl (fun K hK => ?_) AllReadyH.nil)
     refine zH _ (by rfl) _ _ 165 (by rfl) 76 (by rfl) w.heap.size 56 i0 (.agg #[.bool false, .int .u32 0]) 2 8 isA Tryz.underlying165 HI0.out HZ0.out HZ1.out HZ2.out (by rfl) (by decide) zaS gA (L.length - F) cA (flatA (L.drop F)) (by rfl) (HS.out.a _ _ _ _ rfl).1 ⟨g4, 0, none⟩ F cap4 (flatA (L.take F)) (by rfl) (by unfold flatA; rw [zI aVals 2 (fun _ => rfl), List.length_take, Nat.min_eq_left q1]) (HS.out.o4.src 0 _ (fun j u hu => by rw [Nat.zero_add]; exact yH aVals 2 (fun _ => rfl) L F q1 j u hu)) (zR _).1 (zR _).2 (by unfold maxLen; omega) (by omega) HS.out.b.size ?_
     intro gA cA wc hown hg hgg
     rw [Nat.sub_add_cancel q1] at hown ⊢
     have hs1 := HS.out.a4 hown hg hgg
     refine hK.out _ _ trivial (fun hHeld => ?_)
     clear hK K HS hown hg hgg
     try simp only [Act.put, sA, sB, sC]
     have HS := zh hs1
     clear hs1
     refine wpAnyH_ready (rs := [13]) (by kernel_rfl) (by simp) (AllReadyH.cons (o := _) rfl (fun K hK => ?_) AllReadyH.nil)
     refine zH _ (by rfl) _ _ 166 (by rfl) 81 (by rfl) w.heap.size 3 j0 (.int .i64 0) 1 8 isI Tryz.underlying166 HJ0.out HY0.out HY1.out HY2.out (by rfl) (by decide) zaC gI 0 0 [] (by rfl) (HS.out.i _ _ _ _ rfl).1 ⟨g5, F, none⟩ (L.length - F) (cap5 - F) (flatI (L.drop F)) (by rfl) (by unfold flatI; rw [zI iVals 1 (fun _ => rfl), List.length_drop]) (HS.out.o5.src F _ (fun j u hu => by unfold flatI at hu ⊢; rw [yO iVals 1 (fun _ => rfl) L F q1 j, Nat.mul_one] at hu; exact hu)) (zO _).1 (zO _).2 (by unfold maxLen; omega) (by omega) HS.out.b.size ?_
     intro gI cI wc hown hg hgg
     simp only [Nat.zero_add, List.nil_append] at hown ⊢
     have hs1 := HS.out.i4 hown hg hgg
     refine hK.out _ _ trivial (fun hHeld => ?_)
     clear hK K HS hown hg hgg
     try simp only [Act.put, sA, sB, sC]
     have HS := zh hs1
     clear hs1
     refine wpAnyH_ready (rs := [17]) (by kernel_rfl) (by simp) (AllReadyH.cons (o := _) rfl (fun K hK => ?_) AllReadyH.nil)
     refine zH _ (by rfl) _ _ 166 (by rfl) 85 (by rfl) w.heap.size 3 j0 (.int .i64 0) 1 8 isI Tryz.underlying166 HJ0.out HY0.out HY1.out HY2.out (by rfl) (by decide) zaC gI (L.length - F) cI (flatI (L.drop F)) (by rfl) (HS.out.i _ _ _ _ rfl).1 ⟨g5, 0, none⟩ F cap5 (flatI (L.take F)) (by rfl) (by unfold flatI; rw [zI iVals 1 (fun _ => rfl), List.length_take, Nat.min_eq_left q1]) (HS.out.o5.src 0 _ (fun j u hu => by rw [Nat.zero_add]; exact yH iVals 1 (fun _ => rfl) L F q1 j u hu)) (zO _).1 (zO _).2 (by unfold maxLen; omega) (by omega) HS.out.b.size ?_
     intro gI cI wc hown hg hgg
     rw [Nat.sub_add_cancel q1] at hown ⊢
     have hs1 := HS.out.i4 hown hg hgg
     refine hK.out _ _ trivial (fun hHeld => ?_)
     clear hK K HS hown hg hgg
     try simp only [Act.put, sA, sB, sC]
     have HS := zh hs1
     clear hs1
     refine zA 18 2 ?v18x17 (by rfl) (by kernel_rfl) (by kernel_rfl) (by kernel_rfl) (by kernel_rfl) (fun _ _ _ _ h => h) (by kernel_rfl) ?hy18x17 (by assumption) ?nx18x17
     case hy18x17 =>
      intro w' hSw
      go_simp
      try with_reducible rfl
     try simp only [sA, sB, sC]
     refine zA 19 3 ?v19x18 (by rfl) (by kernel_rfl) (by kernel_rfl) (by kernel_rfl) (by kernel_rfl) (fun _ _ _ _ h => h) (by kernel_rfl) ?hy19x18 (by assumption) ?nx19x18
     case hy19x18 =>
      intro w' hSw
      go_simp
      try with_reducible rfl
     try simp only [sA, sB, sC]
     refine wpAnyH_done (by kernel_rfl) ?_ _
     go_wp2_with fail
     go_ret2
     rw [← HPS.out, ← HF.out]
     have hA := (HS.out.a _ _ _ _ rfl).1
     have hI := (HS.out.i _ _ _ _ rfl).1
     have hlen' : (L.drop F ++ L.take F).length = L.length := by rw [List.length_append, List.length_drop, List.length_take]; omega
     have eA : flatA (L.drop F) ++ flatA (L.take F) = flatA (L.drop F ++ L.take F) := by simp [flatA]
     have eI : flatI (L.drop F) ++ flatI (L.take F) = flatI (L.drop F ++ L.take F) := by simp [flatI]
     rw [eA] at hA
     rw [eI] at hI
     exact ⟨gA, gI, cA, cI, by rw [hlen']; rfl, HS.out.b, by rw [hlen']; exact hA, by rw [hlen']; exact hI⟩
   case a9 =>
    go_simp
    obtain ⟨gI, hgI⟩ : ∃ gI, gI = wc.heap.size := ⟨_, rfl⟩
    have hs1 := HS.out.i0
    rw [← hgI] at hs1
    refine hK.out _ _ trivial (fun hHeld => ?_)
    clear hK K HS
    try simp only [Act.put, sA, sB, sC]
    rw [← hgI]
    have HS := zh hs1
    clear hs1 hgI
    generalize wc.alloc (.cells #[] 3) = wc at HS ⊢
    refine wpAnyH_ready (rs := [0]) (by kernel_rfl) (by simp) (AllReadyH.cons (o := _) rfl (fun K hK => ?_) AllReadyH.nil)
    go_simp
    obtain ⟨gA, hgA⟩ : ∃ gA, gA = wc.heap.size := ⟨_, rfl⟩
    have hs1 := HS.out.a0
    rw [← hgA] at hs1
    refine hK.out _ _ trivial (fun hHeld => ?_)
    clear hK K HS
    try simp only [Act.put, sA, sB, sC]
    rw [← hgA]
    have HS := zh hs1
    clear hs1 hgA
    generalize wc.alloc (.cells #[] 56) = wc at HS ⊢
    refine wpAnyH_ready (rs := [4]) (by kernel_rfl) (by simp) (AllReadyH.cons (o := _) rfl (fun K hK => ?_) AllReadyH.nil)
    refine zH _ (by rfl) _ _ 165 (by rfl) 72 (by rfl) w.heap.size 56 i0 (.agg #[.bool false, .int .u32 0]) 2 8 isA Tryz.underlying165 HI0.out HZ0.out HZ1.out HZ2.out (by rfl) (by decide) zaS gA 0 0 [] (by rfl) (HS.out.a _ _ _ _ rfl).1 ⟨g4, F * 2, none⟩ (L.length - F) (cap4 - F) (flatA (L.drop F)) (by rfl) (by unfold flatA; rw [zI aVals 2 (fun _ => rfl), List.length_drop]) (HS.out.o4.src (F * 2) _ (fun j u hu => by unfold flatA at hu ⊢; rw [yO aVals 2 (fun _ => rfl) L F q1 j] at hu; exact hu)) (zR _).1 (zR _).2 (by unfold maxLen; omega) (by omega) HS.out.b.size ?_
    intro gA cA wc hown hg hgg
    simp only [Nat.zero_add, List.nil_append] at hown ⊢
    have hs1 := HS.out.a4 hown hg hgg
    refine hK.out _ _ trivial (fun hHeld => ?_)
    clear hK K HS hown hg hgg
    try simp only [Act.put, sA, sB, sC]
    have HS := zh hs1
    clear hs1
    refine wpAnyH_ready (rs := [8]) (by kernel_rfl) (by simp) (AllReadyH.cons (o := _) rfl (fun K hK => ?_) AllReadyH.nil)
    refine zH _ (by rfl) _ _ 165 (by rfl) 76 (by rfl) w.heap.size 56 i0 (.agg #[.bool false, .int .u32 0]) 2 8 isA Tryz.underlying165 HI0.out HZ0.out HZ1.out HZ2.out (by rfl) (by decide) zaS gA (L.length - F) cA (flatA (L.drop F)) (by rfl) (HS.out.a _ _ _ _ rfl).1 ⟨g4, 0, none⟩ F cap4 (flatA (L.take F)) (by rfl) (by unfold flatA; rw [zI aVals 2 (fun _ => rfl), List.length_take, Nat.min_eq_left q1]) (HS.out.o4.src 0 _ (fun j u hu => by rw [Nat.zero_add]; exact yH aVals 2 (fun _ => rfl) L F q1 j u hu)) (zR _).1 (zR _).2 (by unfold maxLen; omega) (by omega) HS.out.b.size ?_
    intro gA cA wc hown hg hgg
    rw [Nat.sub_add_cancel q1] at hown ⊢
    have hs1 := HS.out.a4 hown hg hgg
    refine hK.out _ _ trivial (fun hHeld => ?_)
    clear hK K HS hown hg hgg
    try simp only [Act.put, sA, sB, sC]
    have HS := zh hs1
    clear hs1
    refine wpAnyH_ready (rs := [13]) (by kernel_rfl) (by simp) (AllReadyH.cons (o := _) rfl (fun K hK => ?_) AllReadyH.nil)
    refine zH _ (by rfl) _ _ 166 (by rfl) 81 (by rfl) w.heap.size 3 j0 (.int .i64 0) 1 8 isI Tryz.underlying166 HJ0.out HY0.out HY1.out HY2.out (by rfl) (by decide) zaC gI 0 0 [] (by rfl) (HS.out.i _ _ _ _ rfl).1 ⟨g5, F, none⟩ (L.length - F) (cap5 - F) (flatI (L.drop F)) (by rfl) (by unfold flatI; rw [zI iVals 1 (fun _ => rfl), List.length_drop]) (HS.out.o5.src F _ (fun j u hu => by unfold flatI at hu ⊢; rw [yO iVals 1 (fun _ => rfl) L F q1 j, Nat.mul_one] at hu; exact hu)) (zO _).1 (zO _).2 (by unfold maxLen; omega) (by omega) HS.out.b.size ?_
    intro gI cI wc hown hg hgg
    simp only [Nat.zero_add, List.nil_append] at hown ⊢
    have hs1 := HS.out.i4 hown hg hgg
    refine hK.out _ _ trivial (fun hHeld => ?_)
    clear hK K HS hown hg hgg
    try simp only [Act.put, sA, sB, sC]
    have HS := zh hs1
    clear hs1
    refine wpAnyH_ready (rs := [17]) (by kernel_rfl) (by simp) (AllReadyH.cons (o := _) rfl (fun K hK => ?_) AllReadyH.nil)
    refine zH _ (by rfl) _ _ 166 (by rfl) 85 (by rfl) w.heap.size 3 j0 (.int .i64 0) 1 8 isI Tryz.underlying166 HJ0.out HY0.out HY1.out HY2.out (by rfl) (by decide) zaC gI (L.length - F) cI (flatI (L.drop F)) (by rfl) (HS.out.i _ _ _ _ rfl).1 ⟨g5, 0, none⟩ F cap5 (flatI (L.take F)) (by rfl) (by unfold flatI; rw [zI iVals 1 (fun _ => rfl), List.length_take, Nat.min_eq_left q1]) (HS.out.o5.src 0 _ (fun j u hu => by rw [Nat.zero_add]; exact yH iVals 1 (fun _ => rfl) L F q1 j u hu)) (zO _).1 (zO _).2 (by unfold maxLen; omega) (by omega) HS.out.b.size ?_
    intro gI cI wc hown hg hgg
    rw [Nat.sub_add_cancel q1] at hown ⊢
    have hs1 := HS.out.i4 hown hg hgg
    refine hK.out _ _ trivial (fun hHeld => ?_)
    clear hK K HS hown hg hgg
    try simp only [Act.put, sA, sB, sC]
    have HS := zh hs1
    clear hs1
    refine zA 18 2 ?v18x19 (by rfl) (by kernel_rfl) (by kernel_rfl) (by kernel_rfl) (by kernel_rfl) (fun _ _ _ _ h => h) (by kernel_rfl) ?hy18x19 (by assumption) ?nx18x19
    case hy18x19 =>
     intro w' hSw
     go_simp
     try with_reducible rfl
    try simp only [sA, sB, sC]
    refine zA 19 3 ?v19x20 (by rfl) (by kernel_rfl) (by kernel_rfl) (by kernel_rfl) (by kernel_rfl) (fun _ _ _ _ h => h) (by kernel_rfl) ?hy19x20 (by assumption) ?nx19x20
    case hy19x20 =>
     intro w' hSw
     go_simp
     try with_reducible rfl
    try simp only [sA, sB, sC]
    refine wpAnyH_done (by kernel_rfl) ?_ _
    go_wp2_with fail
    go_ret2
    rw [← HPS.out, ← HF.out]
    have hA := (HS.out.a _ _ _ _ rfl).1
    have hI := (HS.out.i _ _ _ _ rfl).1
    have hlen' : (L.drop F ++ L.take F).length = L.length := by rw [List.length_append, List.length_drop, List.length_take]; omega
    have eA : flatA (L.drop F) ++ flatA (L.take F) = flatA (L.drop F ++ L.take F) := by simp [flatA]
    have eI : flatI (L.drop F) ++ flatI (L.take F) = flatI (L.drop F ++ L.take F) := by simp [flatI]
    rw [eA] at hA
    rw [eI] at hI
    exact ⟨gA, gI, cA, cI, by rw [hlen']; rfl, HS.out.b, by rw [hlen']; exact hA, by rw [hlen']; exact hI⟩
end Go.Proofs.YtnehofekgnbelaaGreatDoor

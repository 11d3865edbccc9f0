/-
  Texts put together: Sto2, Del,
-/
import Derived.Test.YtnehofekgnbelaaGreatDoorY37
import Derived.Test.YtnehofekgnbelaaGreatDoorM9
import Derived.Defers
namespace Go.Proofs.YtnehofekgnbelaaGreatDoor
open Go.RowKit
set_option linter.unusedVariables false
set_option maxRecDepth 100000
set_option maxHeartbeats 1000000
theorem zcR (T : Nat) (w : World) : Calls Tryz.prog 203 #[.pointer (some ⟨T, 0, none⟩)] w (fun e w' => e = .returned .nilIface ∧ w = w') := by
 go_enter Tryz.func203, Tryz.ntmps203
 go_wp2_with fail
 go_ret
 exact ⟨rfl, rfl⟩
theorem zM (T : Nat) (u : FrameMode) (w : World) : CallsD Tryz.prog 205 #[.pointer (some ⟨T, 0, none⟩)] u w (fun e u' w' => u' = u ∧ (e = .returned .nilIface ∧ w' = w)) := by
 go_enter_d Tryz.func205, Tryz.ntmps205
 go_wp2_with fail
 go_ret
 exact ⟨rfl, rfl⟩
def zkC (w : World) (last : Option Ad) (e : Ending) (w' : World) : Prop := match last with
 | none => (∃ b, e = .returned (.tuple #[.slice none 0 0, .iface 203 (.pointer (some ⟨b, 0, none⟩))])) ∧ Below w.heap.size w w'
 | some a => ∃ v, e = .returned (.tuple #[v, .nilIface]) ∧ AdAt w' v a ∧ Below w.heap.size w w'
theorem zaT (base T : Nat) (hs : List HV) (last : Option Ad) (rid : ByteArray) (w : World) (h : Sto w base T hs last) :
  Calls Tryz.prog 202 #[.pointer (some ⟨T, 0, none⟩), .string rid] w (zkC w last) := by
 have hnil := fun w a n c => Lib.run_eql_slice_nil (P := Tryz.prog) w 67 5 a n c 0 0 Tryz.underlying67
 obtain ⟨hv, lv, hT, hrow, hl⟩ := h.rows
 have cT : w.cell? ⟨T, 1, none⟩ = some lv := cell_of_row w T 1 _ _ _ hT
 cases last with
 | none =>
  obtain rfl : lv = .slice none 0 0 := hl
  clear h hT hrow
  go_enter Tryz.func202, Tryz.ntmps202
  go_wp2_with fail
  refine (newError_any _ _).mono ?_
  rintro e w1 ⟨rfl, hb⟩
  have HB := zh hb
  clear hb
  go_wp2_with fail
  go_ret2
  exact ⟨⟨_, rfl⟩, HB.out⟩
 | some a =>
  have ha : AdAt w lv a := hl
  have HC := zh (zbO lv a w ha)
  obtain ⟨b, o, n, c, rfl⟩ := ha.slice
  clear h hT hrow hl ha
  go_enter Tryz.func202, Tryz.ntmps202
  go_wp2_with fail
  refine HC.out.mono ?_
  rintro e w1 ⟨v, rfl, hv, hb⟩
  have HV1 := zh hv
  have HB := zh hb
  clear hv hb
  go_wp2_with fail
  go_ret2
  exact ⟨_, rfl, HV1.out, HB.out⟩
def whoB (hid hat id at_ : ByteArray) : Bool := (hid.toList == id.toList) && (hat.toList == at_.toList)
def isSlc (u : Value) : Prop := ∃ b n c, u = .slice b n c
theorem zmT (x : UInt8) : ¬ isSlc (u8v x) := by rintro ⟨_, _, _, h⟩; simp [u8v] at h
def byWho (hs : List HV) (id at_ : ByteArray) : List Ad := (hs.filter fun h => whoB h.id h.at_ id at_).map HV.a
theorem zmU : (Tryz.prog.info? 67).map (fun i => (i.zero, i.size, i.bytes)) = some (some (.slice none 0 0), 1, 24) := by kernel_rfl
theorem zkD (k : Nat) : ∀ u ∈ (Builtin.zeroCells (Value.slice none 0 0).cells k).toList, isSlc u := by
 intro u hu
 unfold Builtin.zeroCells at hu
 simp only [Array.toList_map, List.mem_map] at hu
 obtain ⟨i, _, rfl⟩ := hu
 have hlt : i % 1 < 1 := Nat.mod_lt _ (by decide)
 show isSlc (#[Value.slice none 0 0][i % 1]!)
 obtain h : i % 1 = 0 := by omega
 rw [h]
 exact ⟨_, _, _, rfl⟩
theorem zgG (hs : List HV) (h : HV) (id at_ : ByteArray) : byWho (hs ++ [h]) id at_ = byWho hs id at_ ++ if whoB h.id h.at_ id at_ then [h.a] else [] := by
 unfold byWho
 rw [List.filter_append, List.map_append]
 cases hb : whoB h.id h.at_ id at_ <;> simp [hb]
def Ads (w : World) (base : Nat) (v : Value) (al : List Ad) : Prop := ∃ vs : List Value, RowP w base 67 1 isSlc v al.length vs ∧ ∀ (j : Nat) (u : Value) (a : Ad), vs[j]? = some u → al[j]? = some a → AdAt w u a
theorem Ads.on {w w' : World} {base : Nat} {v : Value} {al : List Ad} (h : Ads w base v al) (hb : Below w.heap.size w w') : Ads w' base v al := by
 obtain ⟨vs, hr, ha⟩ := h
 exact ⟨vs, hr.on hb, fun j u a h1 h2 => (ha j u a h1 h2).keep hb⟩
theorem Ads.nil (w : World) (base : Nat) : Ads w base (.slice none 0 0) [] := ⟨[], RowP.nil _ _ _ _ _, fun j u a h => by cases h⟩
theorem Ads.form {w : World} {base : Nat} {v : Value} {al : List Ad} (h : Ads w base v al) : ∃ ao c, v = .slice ao al.length c ∧ al.length ≤ c ∧ c ≤ 9223372036854775807 := by
 obtain ⟨vs, hr, _⟩ := h
 obtain ⟨ao, c, hv, h1, h2, _⟩ := hr.form
 exact ⟨ao, c, hv, h1, by unfold maxLen at h2; omega⟩
theorem Ads.next {w w' : World} {base g c : Nat} {v u : Value} {al : List Ad} {vs : List Value} {a : Ad} (hr : RowP w base 67 1 isSlc v al.length vs) (ha : ∀ (j : Nat) (u : Value) (a : Ad), vs[j]? = some u → al[j]? = some a → AdAt w u a) (hu : AdAt w u a)
  (ho : OwnP w' base 67 1 isSlc g (al.length + 1) c (vs ++ [u])) (hg : w.grownBy w' v.ownBlock) : Ads w' base (.slice (some ⟨g, 0, none⟩) (al.length + 1) c) (al ++ [a]) ∧ Fr [67] base w w' := by
 have hf : Fr [67] base w w' := hr.fr_grown zmT (by simp) hg
 have hl : vs.length = al.length := by have := hr.len; omega
 refine ⟨⟨vs ++ [u], .inr ⟨g, c, by simp, by simpa using ho⟩, fun j x b h1 h2 => ?_⟩, hf⟩
 by_cases hj : j < al.length
 ·rw [List.getElem?_append_left (by omega)] at h1 h2
  exact (ha j x b h1 h2).stay hf.bk
 ·have := (List.getElem?_eq_some_iff.1 h2).1
  simp at this
  obtain rfl : j = al.length := by omega
  rw [List.getElem?_append_right (by omega), hl] at h1
  rw [List.getElem?_append_right (by omega)] at h2
  simp at h1 h2
  subst h1
  subst h2
  exact hu.stay hf.bk
def zhP (w : World) (al : List Ad) (e : Ending) (w' : World) : Prop := ∃ v, e = .returned v ∧ Ads w' w.heap.size v al ∧ Below w.heap.size w w'
theorem zbP (base T : Nat) (hs : List HV) (last : Option Ad) (id at_ : ByteArray) (w : World) (h : Sto w base T hs last) (hn : hs.length ≤ 1000) :
  Calls Tryz.prog 74 #[.pointer (some ⟨T, 0, none⟩), .string id, .string at_] w (zhP w (byWho hs id at_)) := by
 have HS := zh h
 obtain ⟨hv, lv, hT, hrow, hl⟩ := h.rows
 obtain ⟨ao, cap, rfl, hc1, hc2, hnone, hsome⟩ := hrow.form
 have HN := zh hnone
 have HSM := zh hsome
 have cT : w.cell? ⟨T, 0, none⟩ = some (.slice ao hs.length cap) := cell_of_row w T 0 _ _ _ hT
 obtain ⟨i0, hi', hz⟩ := Option.map_eq_some_iff.1 zmU
 simp only [Prod.mk.injEq] at hz
 obtain ⟨hz0, hz1, hz2⟩ := hz
 have HI0 := zh hi'
 have HZ0 := zh hz0
 have HZ1 := zh hz1
 have HZ2 := zh hz2
 unfold maxLen at hc2
 clear h hT hrow hl hnone hsome hi' hz0 hz1 hz2
 go_enter Tryz.func74, Tryz.ntmps74
 go_wp2_with fail
 go_loopw [7, 15] (fun v i wr => ∃ k : Nat, i = .int .i64 k ∧ k ≤ hs.length ∧ Hid (Below w.heap.size w wr ∧ Ads wr w.heap.size v (byWho (hs.take k) id at_))) (fun _ i _ => hs.length - (intOf i).toNat)
 case atStart => exact ⟨0, rfl, by omega, zh ⟨Below.refl _ _, Ads.nil _ _⟩⟩
 case round =>
  obtain ⟨k, rfl, hk, hr⟩ := hrel
  obtain ⟨av, kv, rfl, _⟩ := hr.out.2.form
  by_cases hlt : k < hs.length
  rotate_left
  ·obtain rfl : k = hs.length := by omega
   have tk : decide ((hs.length : Int) < hs.length) = false := decide_eq_false (by omega)
   go_wp2_with fail
   go_ret
   refine ⟨.slice av (byWho (hs.take hs.length) id at_).length kv, rfl, ?_, hr.out.1⟩
   have := hr.out.2
   rw [List.take_length] at this ⊢
   exact this
  have tk : decide ((k : Int) < hs.length) = true := decide_eq_true (by omega)
  obtain ⟨ad, hao⟩ : ∃ ad, ao = some ad := by
   cases ao with
   | none => have := (HN.out rfl).1; omega
   | some ad => exact ⟨ad, rfl⟩
  obtain ⟨g, hg, ho⟩ := HSM.out ad hao
  subst hg
  subst hao
  have hx : hs[k]? = some hs[k] := List.getElem?_eq_getElem hlt
  have hent := HS.out.ents _ (List.getElem_mem hlt)
  have hcell : ∀ c, c < 3 → wr.cell? ⟨g, k * 3 + c, none⟩ = hs[k].vals[c]? := fun c hc => by
   rw [hr.out.1.cell ho.lt, ho.cell (k * 3 + c) (by omega), yL hs k c _ hx hc]
  have htake : hs.take (k + 1) = hs.take k ++ [hs[k]] := List.take_succ_eq_append_getElem hlt
  generalize hs[k] = x at *
  obtain ⟨ev, ea, eid, eat⟩ := x
  have c0 : wr.cell? ⟨g, k * 3, none⟩ = some ev := hcell 0 (by decide)
  have c1 : wr.cell? ⟨g, k * 3 + 1, none⟩ = some (.string eid) := hcell 1 (by decide)
  have c2 : wr.cell? ⟨g, k * 3 + 2, none⟩ = some (.string eat) := hcell 2 (by decide)
  have HBY := zh (zgG (hs.take k) ⟨ev, ea, eid, eat⟩ id at_)
  have HTK := zh htake
  obtain ⟨be, oe, ne, ce, rfl⟩ := AdAt.slice hent
  have HCL := zh (fun (W : World) (hb : Below w.heap.size w W) => zbO _ ea W (hent.keep hb))
  have q1 : (0 : Int) ≤ (k : Int) := by omega
  have hlen : (byWho (hs.take k) id at_).length ≤ 1000 := by
   unfold byWho
   rw [List.length_map]
   have := List.length_filter_le (fun h : HV => whoB h.id h.at_ id at_) (hs.take k)
   have := List.length_take_le k hs
   omega
  clear hcell hent ho hx htake
  obtain ⟨b1, e1⟩ : ∃ b, b = (eid.toList == id.toList) := ⟨_, rfl⟩
  obtain ⟨b2, e2⟩ : ∃ b, b = (eat.toList == at_.toList) := ⟨_, rfl⟩
  have t1 := e1.symm
  have t2 := e2.symm
  have HW := zh (show whoB eid eat id at_ = (b1 && b2) by unfold whoB; rw [e1, e2])
  clear e1 e2
  generalize byWho (hs.take k) id at_ = al at *
  cases b1 with
  | false =>
   go_wp2_with fail
   go_roundw
   case rel => exact ⟨k + 1, by simp, by omega, zh ⟨hr.out.1.alloc hr.out.1.size _, by
    rw [HTK.out, HBY.out, HW.out]
    simp only [Bool.false_and, Bool.false_eq_true, if_false, List.append_nil]
    exact hr.out.2.on ((Below.refl _ _).alloc (Nat.le_refl _) _)⟩⟩
   case measure => simp [intOf]; omega
  | true =>
   cases b2 with
   | false =>
    go_wp2_with fail
    go_roundw
    case rel => exact ⟨k + 1, by simp, by omega, zh ⟨hr.out.1.alloc hr.out.1.size _, by
     rw [HTK.out, HBY.out, HW.out]
     simp only [Bool.and_false, Bool.false_eq_true, if_false, List.append_nil]
     exact hr.out.2.on ((Below.refl _ _).alloc (Nat.le_refl _) _)⟩⟩
    case measure => simp [intOf]; omega
   | true =>
    go_wp2_with fail
    refine (HCL.out _ (hr.out.1.alloc hr.out.1.size _)).mono ?_
    rintro e w2 ⟨v2, rfl, hv2, hb2⟩
    have HV2 := zh hv2
    have hbr := below_tr ((Below.refl wr.heap.size wr).alloc (Nat.le_refl _) _) hb2
    have HBR := zh hbr
    obtain ⟨b2, o2, n2, k2, rfl⟩ := hv2.slice
    have HAD := zh ((hr.out.2.on hbr).on ((Below.refl w2.heap.size w2).alloc (Nat.le_refl _) (.cells #[.slice (some ⟨b2, o2, none⟩) n2 k2] 67)))
    obtain ⟨vs, hrv, hav⟩ := HAD.out
    have HRV := zh hrv
    have HAV := zh hav
    have HNEW := zh (show ∀ (j : Nat) (u : Value), ([Value.slice (some ⟨b2, o2, none⟩) n2 k2] : List Value)[j]? = some u → (w2.alloc (.cells #[.slice (some ⟨b2, o2, none⟩) n2 k2] 67)).cell? ((⟨w2.heap.size, 0, none⟩ : Addr).add j) = some u from fun j u hu => by
     rw [Addr.add_lit, Nat.zero_add, cell_of_row _ _ j _ _ _ (heap_alloc_new w2 _), ← hu, List.getElem?_toArray])
    have HBA := zh ((hr.out.1.trans (HBR.out.mono hr.out.1.size)).alloc (Nat.le_trans hr.out.1.size HBR.out.size) (.cells #[.slice (some ⟨b2, o2, none⟩) n2 k2] 67))
    clear hv2 hb2 hbr hrv hav c0 c1 c2
    go_wp2_with (focus (at_builtin; go_must (refine zN _ rfl _ _ 136 rfl w.heap.size 67 i0 (.slice none 0 0) 1 24 isSlc Tryz.underlying136 HI0.out HZ0.out HZ1.out HZ2.out (by rfl) (by decide) zkD (.slice av al.length kv) al.length vs rfl HRV.out ⟨w2.heap.size, 0, none⟩ 1 1 [.slice (some ⟨b2, o2, none⟩) n2 k2] rfl rfl HNEW.out (fun u hu => by simp only [List.mem_singleton] at hu; subst hu; rfl) (fun u hu => by simp only [List.mem_singleton] at hu; subst hu; exact ⟨_, _, _, rfl⟩) (by decide) (by unfold maxLen; omega) (by omega) HBA.out.size ?_)))
    intro g' cap' w3 hown hg hgg
    have HNX := zh (Ads.next HRV.out HAV.out (HV2.out.keep ((Below.refl _ _).alloc (Nat.le_refl _) _)) hown hg)
    clear hown hg hgg
    go_wp2_with fail
    go_roundw
    case rel => exact ⟨k + 1, by simp, by omega, zh ⟨HNX.out.2.below HBA.out HBA.out.size, by
     rw [HTK.out, HBY.out, HW.out]
     exact HNX.out.1⟩⟩
    case measure => simp [intOf]; omega
theorem zkE (B1 B2 : Nat) (b : Option Addr) (n c : Nat) (hid hat id at_ : ByteArray) (w : World) (h1 : w.cell? ⟨B1, 0, none⟩ = some (.string id)) (h2 : w.cell? ⟨B2, 0, none⟩ = some (.string at_)) :
  Calls Tryz.prog 207 #[.agg #[.slice b n c, .string hid, .string hat], .pointer (some ⟨B1, 0, none⟩), .pointer (some ⟨B2, 0, none⟩)] w (BelowPost w (.bool (whoB hid hat id at_))) := by
 have l1 : B1 < w.heap.size := World.block_lt_of_cell? w _ h1
 have l2 : B2 < w.heap.size := World.block_lt_of_cell? w _ h2
 obtain ⟨b1, e1⟩ : ∃ b, b = (hid.toList == id.toList) := ⟨_, rfl⟩
 obtain ⟨b2, e2⟩ : ∃ b, b = (hat.toList == at_.toList) := ⟨_, rfl⟩
 have t1 := e1.symm
 have t2 := e2.symm
 have hw : whoB hid hat id at_ = (b1 && b2) := by unfold whoB; rw [e1, e2]
 rw [hw]
 clear hw e1 e2
 cases b1 <;> cases b2 <;>
 ·go_enter Tryz.func207, Tryz.ntmps207
  go_wp2_with fail
  go_ret
  exact ⟨rfl, (Below.refl _ _).alloc (Nat.le_refl _) _⟩
theorem OwnP.set1 {w : World} {base : Nat} {e : TypeId} {size : Nat} {p : Value → Prop} {g n cap : Nat} {xs : List Value} (h : OwnP w base e size p g n cap xs) (j : Nat) (v : Value) (hj : j < n * size) (hp : p v) :
  OwnP (w.setCell ⟨g, j, none⟩ v) base e size p g n cap (xs.set j v) := by
 obtain ⟨h1, h2, h3, h4, cur, h5, h6, h7, h8⟩ := h
 refine ⟨by simpa using h1, h2, h3, h4, cur.setIfInBounds j v, heap_setCell_same w g j cur e v h5, by simpa using h6, ?_, fun u hu => ?_⟩
 ·rw [Array.toList_setIfInBounds, ← h7, List.take_set]
 ·rw [Array.toList_setIfInBounds] at hu
  rcases List.mem_or_eq_of_mem_set hu with hu | hu
  ·exact h8 u hu
  ·rw [hu]; exact hp
theorem zhQ (hs : List HV) (i : Nat) (x : HV) (hi : i < hs.length) : flatH (hs.set i x) = (((flatH hs).set (i * 3) x.v).set (i * 3 + 1) (.string x.id)).set (i * 3 + 2) (.string x.at_) := by
 induction hs generalizing i with
 | nil => simp at hi
 | cons y hs ih =>
  have e0 : ∀ l : List HV, ∀ z : HV, flatH (z :: l) = z.v :: .string z.id :: .string z.at_ :: flatH l := fun _ _ => rfl
  cases i with
  | zero => simp [e0]
  | succ i =>
   have h1 : (i + 1) * 3 = i * 3 + 1 + 1 + 1 := by omega
   rw [List.set_cons_succ, e0, e0, ih i (by simpa using hi), h1]
   rfl
theorem zgH (hs : List HV) (k : Nat) : (flatH hs).take (k * 3) = flatH (hs.take k) := by
 induction hs generalizing k with
 | nil => simp [flatH]
 | cons y hs ih =>
  have e0 : ∀ l : List HV, ∀ z : HV, flatH (z :: l) = z.v :: .string z.id :: .string z.at_ :: flatH l := fun _ _ => rfl
  cases k with
  | zero => simp [flatH]
  | succ k =>
   have h1 : (k + 1) * 3 = k * 3 + 1 + 1 + 1 := by omega
   rw [List.take_succ_cons, e0, e0, ← ih k, h1]
   rfl
def zU (hs : List HV) (id at_ : ByteArray) : List HV := hs.filter fun h => !whoB h.id h.at_ id at_
theorem zcS {P : Program} (w : World) (t ty e : TypeId) (i : TypeInfo) (z : Value) (ht : P.underlying t = some (.slice e)) (hi : P.info? e = some i) (hz : i.zero = some z) (h1 : ∀ k, ∀ u ∈ (Builtin.zeroCells z.cells k).toList, u.oneCell' = true)
  (g o n c : Nat) (cur : Array Value) (hg : w.heap[g]? = some (.cells cur e (0, 0))) (hn : 0 < n) (hfit : o + n * z.cells.size ≤ cur.size) :
  (Builtin.clear_ #[t] ty #[.slice (some ⟨g, o, none⟩) n c]).run P w = .ok (.tuple #[]) (w.setRow g (cur.toList.take o ++ (Builtin.zeroCells z.cells n).toList ++ cur.toList.drop (o + n * z.cells.size)).toArray) := by
 have hl : (Builtin.zeroCells z.cells n).toList.length = n * z.cells.size := by rw [Array.length_toList, size_zeroCells]
 have hst := run_storeCells_at P g o e (Builtin.zeroCells z.cells n).toList 0 cur w hg (by rw [hl]; omega) (h1 n)
 obtain ⟨m, rfl⟩ : ∃ m, n = m + 1 := ⟨n - 1, by omega⟩
 simp only [Nat.add_zero] at hst
 rw [hl] at hst
 generalize hZ : Builtin.zeroCells z.cells (m + 1) = Z at *
 simp [Builtin.clear_, run_underlying ht, zeroValue, typeInfo, hi, hz, hZ, hst]
theorem zaU {P : Program} {ops : Array Oper} {rest : List Oper} {o : Oper} {a : Act} {Q : Exit → Act → World → Prop} (w : World) (hgd : o.guard = none) (x : Operand) (t e : TypeId) (ho : o.op = .call { callee := .builtin .clear, args := #[x], argTypes := #[t] })
  (i : TypeInfo) (z : Value) (ht : P.underlying t = some (.slice e)) (hi : P.info? e = some i) (hz : i.zero = some z) (h1 : ∀ k, ∀ u ∈ (Builtin.zeroCells z.cells k).toList, u.oneCell' = true)
  (g p n c : Nat) (cur : Array Value) (hx : a.eval x = .slice (some ⟨g, p, none⟩) n c) (hg : w.heap[g]? = some (.cells cur e (0, 0))) (hn : 0 < n) (hfit : p + n * z.cells.size ≤ cur.size)
  (h : wpList P ops Q rest (a.put o.dst (.tuple #[])) (w.setRow g (cur.toList.take p ++ (Builtin.zeroCells z.cells n).toList ++ cur.toList.drop (p + n * z.cells.size)).toArray)) : wpList P ops Q (o :: rest) a w := by
 refine wpList_plain hgd fun K hK => ?_
 have hr := zcS (P := P) w t o.type e i z ht hi hz h1 g p n c cur hg hn hfit
 unfold Oper.wp execOp
 simp only [ho, resolve, invoke, builtin, Sem.run_bind, Sem.run_pure, Result.andThen_ok, List.map_toArray, List.map_cons, List.map_nil, hx, hr]
 exact hK _ _ h
theorem OwnP.clear {w : World} {base : Nat} {e : TypeId} {size : Nat} {p : Value → Prop} {g n cap : Nat} {xs : List Value} (h : OwnP w base e size p g n cap xs) (k : Nat) (hk : k ≤ n) :
  ∃ cur : Array Value, w.heap[g]? = some (.cells cur e (0, 0)) ∧ k * size + (n - k) * size ≤ cur.size ∧ ∀ Z : List Value, Z.length = (n - k) * size → (∀ u ∈ Z, p u) →
   OwnP (w.setRow g (cur.toList.take (k * size) ++ Z ++ cur.toList.drop (k * size + (n - k) * size)).toArray) base e size p g k cap (xs.take (k * size)) := by
 obtain ⟨h1, h2, h3, h4, cur, h5, h6, h7, h8⟩ := h
 have hkn : k * size + (n - k) * size = n * size := by rw [← Nat.add_mul]; congr 1; omega
 have hks : k * size ≤ n * size := Nat.mul_le_mul_right _ hk
 have hcs : n * size ≤ cap * size := Nat.mul_le_mul_right _ h3
 refine ⟨cur, h5, by omega, fun Z hZ hp => ⟨?_, h2, by omega, h4, _, setRow_heap w g cur _ e _ h5, ?_, ?_, fun u hu => ?_⟩⟩
 ·rw [List.length_take]; omega
 ·simp only [List.size_toArray, List.length_append, List.length_take, List.length_drop, Array.length_toList]
  omega
 ·have hlen : (cur.toList.take (k * size)).length = k * size := by rw [List.length_take, Array.length_toList]; omega
  show ((cur.toList.take (k * size) ++ Z) ++ cur.toList.drop (k * size + (n - k) * size)).take (k * size) = xs.take (k * size)
  rw [List.append_assoc, List.take_append_of_le_length (by omega), List.take_of_length_le (by omega), ← h7, List.take_take, Nat.min_eq_left hks]
 ·simp only [List.mem_append] at hu
  rcases hu with (hu | hu) | hu
  ·exact h8 u (List.mem_of_mem_take hu)
  ·exact hp u hu
  ·exact h8 u (List.mem_of_mem_drop hu)
theorem zhR {ts : List Nat} {base : Nat} {w : World} {e : TypeId} {size : Nat} {p : Value → Prop} {g n cap : Nat} {xs : List Value} (h : OwnP w base e size p g n cap xs) (hp : ∀ x : UInt8, ¬ p (u8v x)) (he : e ∈ ts) (cs : Array Value) : Fr ts base w (w.setRow g cs) :=
 Fr.grown (row := some g) ⟨rfl, rfl, rfl, by simp, fun k _ hk => setRow_other w g k _ (fun e => hk (by rw [e]))⟩ fun g' hg' => by
  cases hg'
  refine ⟨h.2.1, fun j x hx => hp x (h.kind j _ hx), ?_⟩
  obtain ⟨_, _, _, _, cur, h5, _⟩ := h
  exact ⟨cur, e, _, h5, he⟩
theorem zbQ {ts : List Nat} {base : Nat} {w : World} {e : TypeId} {size : Nat} {p : Value → Prop} {g n cap : Nat} {xs : List Value} (h : OwnP w base e size p g n cap xs) (hp : ∀ x : UInt8, ¬ p (u8v x)) (he : e ∈ ts) (j : Nat) (z : Value) : Fr ts base w (w.setCell ⟨g, j, none⟩ z) := by
 have hn : ∀ x : UInt8, w.cell? ⟨g, j, none⟩ ≠ some (u8v x) := fun x hx => hp x (h.kind j _ hx)
 have hb := h.2.1
 obtain ⟨_, _, _, _, cur, h5, _⟩ := h
 exact Fr.set h5 he hb hn
structure Caps (w : World) (B1 B2 : Nat) (id at_ : ByteArray) : Prop where
 r1 : w.heap[B1]? = some (.cells #[.string id] 9 (0, 0))
 r2 : w.heap[B2]? = some (.cells #[.string at_] 9 (0, 0))
theorem Caps.fr {ts : List Nat} {base : Nat} {w w' : World} {B1 B2 : Nat} {id at_ : ByteArray} (h : Caps w B1 B2 id at_) (hf : Fr ts base w w') (hs : 9 ∉ ts) : Caps w' B1 B2 id at_ := ⟨hf.rows _ _ _ _ h.r1 hs, hf.rows _ _ _ _ h.r2 hs⟩
def relFn (B1 B2 : Nat) : Value := .func (.func 207) #[] #[.pointer (some ⟨B1, 0, none⟩), .pointer (some ⟨B2, 0, none⟩)]
theorem zhS {w : World} {B1 B2 : Nat} {id at_ : ByteArray} (h : Caps w B1 B2 id at_) (b : Option Addr) (n c : Nat) (hid hat : ByteArray) :
  Calls Tryz.prog 207 #[.agg #[.slice b n c, .string hid, .string hat], .pointer (some ⟨B1, 0, none⟩), .pointer (some ⟨B2, 0, none⟩)] w (BelowPost w (.bool (whoB hid hat id at_))) :=
 zkE B1 B2 b n c hid hat id at_ w (cell_of_row _ _ 0 _ _ _ h.r1) (cell_of_row _ _ 0 _ _ _ h.r2)
def IdxHd (w : World) (hs : List HV) (id at_ : ByteArray) (e : Ending) (w' : World) : Prop :=
 Below w.heap.size w w' ∧ ((e = .returned (.int .i64 (-1)) ∧ ∀ h ∈ hs, whoB h.id h.at_ id at_ = false) ∨
  ∃ (k : Nat) (x : HV), e = .returned (.int .i64 k) ∧ hs[k]? = some x ∧ whoB x.id x.at_ id at_ = true ∧ ∀ h ∈ hs.take k, whoB h.id h.at_ id at_ = false)
theorem zhT (base : Nat) (hv : Value) (hs : List HV) (B1 B2 : Nat) (id at_ : ByteArray) (w : World) (hrow : RowP w base 109 3 isHd hv hs.length (flatH hs)) (hsl : ∀ h ∈ hs, ∃ b n c, h.v = .slice b n c) (hc : Caps w B1 B2 id at_) :
  Calls Tryz.prog 208 #[hv, relFn B1 B2] w (IdxHd w hs id at_) := by
 obtain ⟨ao, cap, rfl, hc1, hc2, hnone, hsome⟩ := hrow.form
 have HN := zh hnone
 have HSM := zh hsome
 have HSL := zh hsl
 have HC := zh hc
 unfold maxLen at hc2
 unfold relFn
 clear hrow hnone hsome hsl hc
 go_enter Tryz.func208, Tryz.ntmps208
 go_wp2_with fail
 go_loopw [8] (fun i wr => ∃ k : Nat, i = .int .i64 k ∧ k ≤ hs.length ∧ Hid (Below w.heap.size w wr ∧ ∀ h ∈ hs.take k, whoB h.id h.at_ id at_ = false)) (fun i _ => hs.length - (intOf i).toNat)
 case atStart => exact ⟨0, rfl, by omega, zh ⟨Below.refl _ _, fun h hh => by simp at hh⟩⟩
 case round =>
  obtain ⟨k, rfl, hk, hr⟩ := hrel
  by_cases hlt : k < hs.length
  rotate_left
  ·obtain rfl : k = hs.length := by omega
   have tk : decide ((hs.length : Int) < hs.length) = false := decide_eq_false (by omega)
   go_wp2_with fail
   go_ret
   refine ⟨hr.out.1, .inl ⟨rfl, ?_⟩⟩
   have := hr.out.2
   rw [List.take_length] at this
   exact this
  have tk : decide ((k : Int) < hs.length) = true := decide_eq_true (by omega)
  obtain ⟨ad, hao⟩ : ∃ ad, ao = some ad := by
   cases ao with
   | none => have := (HN.out rfl).1; omega
   | some ad => exact ⟨ad, rfl⟩
  obtain ⟨g, hg, ho⟩ := HSM.out ad hao
  subst hg
  subst hao
  have hx : hs[k]? = some hs[k] := List.getElem?_eq_getElem hlt
  have hslx := HSL.out _ (List.getElem_mem hlt)
  have hcell : ∀ c, c < 3 → wr.cell? ⟨g, k * 3 + c, none⟩ = hs[k].vals[c]? := fun c hc => by
   rw [hr.out.1.cell ho.lt, ho.cell (k * 3 + c) (by omega), yL hs k c _ hx hc]
  have htake : hs.take (k + 1) = hs.take k ++ [hs[k]] := List.take_succ_eq_append_getElem hlt
  generalize hs[k] = x at *
  obtain ⟨ev, ea, eid, eat⟩ := x
  obtain ⟨be, ne, ce, he⟩ := hslx
  have he' : ev = .slice be ne ce := he
  subst he'
  have c0 : wr.cell? ⟨g, k * 3, none⟩ = some (.slice be ne ce) := hcell 0 (by decide)
  have c1 : wr.cell? ⟨g, k * 3 + 1, none⟩ = some (.string eid) := hcell 1 (by decide)
  have c2 : wr.cell? ⟨g, k * 3 + 2, none⟩ = some (.string eat) := hcell 2 (by decide)
  have HX := zh hx
  have HTK := zh htake
  have q1 : (0 : Int) ≤ (k : Int) := by omega
  obtain ⟨b, hb⟩ : ∃ b, b = whoB eid eat id at_ := ⟨_, rfl⟩
  have HCALL := zh (show Calls Tryz.prog 207 #[.agg #[.slice be ne ce, .string eid, .string eat], .pointer (some ⟨B1, 0, none⟩), .pointer (some ⟨B2, 0, none⟩)] wr (BelowPost wr (.bool b)) from by
   rw [hb]; exact zhS (HC.out.fr (ts := []) (base := 0) (Fr.of_below hr.out.1) (by simp)) be ne ce eid eat)
  have HB := zh hb
  clear hcell hx htake ho he hb
  go_wp2_with fail
  refine HCALL.out.mono ?_
  rintro e w2 ⟨rfl, hb2⟩
  have HB2 := zh (below_tr hr.out.1 hb2)
  clear hb2 c0 c1 c2
  cases b with
  | true =>
   go_wp2_with fail
   go_ret
   exact ⟨HB2.out, .inr ⟨k, _, rfl, HX.out, HB.out.symm, hr.out.2⟩⟩
  | false =>
   go_wp2_with fail
   go_roundw
   case rel => exact ⟨k + 1, by simp, by omega, zh ⟨HB2.out, fun h hh => by
    rw [HTK.out] at hh
    rcases List.mem_append.1 hh with hh | hh
    ·exact hr.out.2 h hh
    ·obtain rfl := List.mem_singleton.1 hh
     exact HB.out.symm⟩⟩
   case measure => simp [intOf]; omega
theorem zcT {α : Type} (l : List α) (i : Nat) (x : α) (hi : i < l.length) : (l.set i x).take (i + 1) = l.take i ++ [x] := by
 induction l generalizing i with
 | nil => simp at hi
 | cons y l ih =>
  cases i with
  | zero => simp
  | succ i => rw [List.set_cons_succ, List.take_succ_cons, List.take_succ_cons, ih i (by simpa using hi)]; rfl
theorem yS (l m : List HV) (id at_ : ByteArray) : zU (l ++ m) id at_ = zU l id at_ ++ zU m id at_ := List.filter_append ..
theorem zbR (l : List HV) (id at_ : ByteArray) (h : ∀ x ∈ l, whoB x.id x.at_ id at_ = false) : zU l id at_ = l := by
 unfold zU
 rw [List.filter_eq_self]
 intro x hx
 rw [h x hx]
 rfl
theorem zbS (x : HV) (id at_ : ByteArray) (h : whoB x.id x.at_ id at_ = true) : zU [x] id at_ = [] := by simp [zU, h]
theorem zgI (x : HV) (id at_ : ByteArray) (h : whoB x.id x.at_ id at_ = false) : zU [x] id at_ = [x] := by simp [zU, h]
theorem zkF (k : Nat) : ∀ u ∈ (Builtin.zeroCells (Value.agg #[.slice none 0 0, .string ⟨#[]⟩, .string ⟨#[]⟩]).cells k).toList, u.oneCell' = true := by
 intro u hu
 rcases zeO k u hu with ⟨_, _, _, rfl⟩ | ⟨_, rfl⟩ <;> rfl
def zlS (w : World) (base : Nat) (hs : List HV) (id at_ : ByteArray) (e : Ending) (w' : World) : Prop :=
 ∃ v', e = .returned v' ∧ RowP w' base 109 3 isHd v' (zU hs id at_).length (flatH (zU hs id at_)) ∧ Fr [109] base w w'
structure DelR (w : World) (base g cap : Nat) (hs : List HV) (id at_ : ByteArray) (ki kj : Nat) (cur : List HV) (wr : World) : Prop where
 len : cur.length = hs.length
 done : cur.take ki = zU (hs.take kj) id at_
 rest : ∀ t, kj ≤ t → cur[t]? = hs[t]?
 own : OwnP wr base 109 3 isHd g hs.length cap (flatH cur)
 fr : Fr [109] base w wr
 lt : ki < kj
theorem zhU (base : Nat) (hv : Value) (hs : List HV) (B1 B2 : Nat) (id at_ : ByteArray) (w : World) (hrow : RowP w base 109 3 isHd hv hs.length (flatH hs)) (hsl : ∀ h ∈ hs, ∃ b n c, h.v = .slice b n c) (hc : Caps w B1 B2 id at_) :
  Calls Tryz.prog 206 #[hv, relFn B1 B2] w (zlS w base hs id at_) := by
 have HI := zh (zhT base hv hs B1 B2 id at_ w hrow hsl hc)
 obtain ⟨ao, cap, rfl, hc1, hc2, hnone, hsome⟩ := hrow.form
 have HN := zh hnone
 have HSM := zh hsome
 have HSL := zh hsl
 have HC := zh hc
 have HROW := zh hrow
 unfold maxLen at hc2
 unfold relFn at HI ⊢
 obtain ⟨i0, hi', hz⟩ := Option.map_eq_some_iff.1 zlH
 simp only [Prod.mk.injEq] at hz
 obtain ⟨hz0, hz1, hz2⟩ := hz
 have HI0 := zh hi'
 have HZ0 := zh hz0
 clear hrow hnone hsome hsl hc hi' hz0 hz1 hz2
 go_enter Tryz.func206, Tryz.ntmps206
 go_wp2_with fail
 refine HI.out.mono ?_
 rintro e w1 ⟨hb1, ⟨rfl, hall⟩ | ⟨k, x, rfl, hk, hw, hall⟩⟩
 ·have HB1 := zh hb1
  have HA := zh (zbR hs id at_ hall)
  clear hb1 hall HI
  go_wp2_with fail
  go_ret
  refine ⟨.slice ao hs.length cap, rfl, ?_, Fr.of_below HB1.out⟩
  rw [HA.out]
  exact HROW.out.on HB1.out
 have hkn : k < hs.length := (List.getElem?_eq_some_iff.1 hk).1
 obtain ⟨ad, hao⟩ : ∃ ad, ao = some ad := by
  cases ao with
  | none => have := (HN.out rfl).1; omega
  | some ad => exact ⟨ad, rfl⟩
 obtain ⟨g, hg, ho⟩ := HSM.out ad hao
 subst hg
 subst hao
 have H0 := zh (show DelR w base g cap hs id at_ k (k + 1) hs w1 from ⟨rfl, by
  rw [List.take_succ_eq_append_getElem hkn, yS, zbR _ id at_ hall, (List.getElem?_eq_some_iff.1 hk).2, zbS x id at_ hw, List.append_nil], fun t _ => rfl, ho.on hb1, Fr.of_below hb1, by omega⟩)
 have t1 : ((k : Int) == -1) = false := by rw [beq_eq_false_iff_ne]; omega
 clear hb1 hk hw hall ho HI
 go_wp2_with fail
 go_loopw [5, 6] (fun i j wr => ∃ ki kj : Nat, i = .int .i64 ki ∧ j = .int .i64 kj ∧ kj ≤ hs.length ∧ ki < kj ∧ Hid (∃ cur, DelR w base g cap hs id at_ ki kj cur wr)) (fun _ j _ => hs.length - (intOf j).toNat)
 case atStart => exact ⟨k, k + 1, rfl, by go_num, by omega, by omega, zh ⟨_, H0.out⟩⟩
 case round =>
  obtain ⟨ki, kj, rfl, rfl, hkj, hlt, hr⟩ := hrel
  obtain ⟨cur, hd⟩ := hr.out
  have HD := zh hd
  clear hr H0
  by_cases hjn : kj < hs.length
  rotate_left
  ·obtain rfl : kj = hs.length := by omega
   have tk : decide ((hs.length : Int) < hs.length) = false := decide_eq_false (by omega)
   obtain ⟨cur0, hg0, hfit0, hown0⟩ := hd.own.clear ki (by omega)
   have HG0 := zh hg0
   have HF0 := zh (show ki * 3 + (hs.length - ki) * (Value.agg #[.slice none 0 0, .string ⟨#[]⟩, .string ⟨#[]⟩]).cells.size ≤ cur0.size from hfit0)
   have q4 : 0 < hs.length - ki := by omega
   have HO0 := zh hown0
   have q1 : (0 : Int) ≤ (ki : Int) := by omega
   have q2 : (ki : Int) ≤ (hs.length : Int) := by omega
   have q3 : ki ≠ cap := by omega
   clear hd hg0 hfit0 hown0
   go_wp2_with (with_reducible refine zaU _ rfl (.tmp 38) 94 109 rfl i0 (.agg #[.slice none 0 0, .string ⟨#[]⟩, .string ⟨#[]⟩]) Tryz.underlying94 HI0.out HZ0.out zkF g (ki * 3) (hs.length - ki) (cap - ki) cur0 rfl HG0.out q4 HF0.out ?_)
   go_ret
   have hdone := HD.out.done
   rw [List.take_length] at hdone
   have hlen : (zU hs id at_).length = ki := by rw [← hdone, List.length_take, HD.out.len]; omega
   have hrow := HO0.out (Builtin.zeroCells (Value.agg #[.slice none 0 0, .string ⟨#[]⟩, .string ⟨#[]⟩]).cells (hs.length - ki)).toList (by rw [Array.length_toList, size_zeroCells]; rfl) (zeO _)
   rw [zgH, hdone, List.append_assoc] at hrow
   refine ⟨.slice (some ⟨g, 0, none⟩) ki cap, rfl, .inr ⟨g, cap, by rw [hlen], by rw [hlen]; exact hrow⟩, HD.out.fr.trans (zhR HD.out.own hd_nb (by simp) _)⟩
  have tk : decide ((kj : Int) < hs.length) = true := decide_eq_true (by omega)
  have hx : hs[kj]? = some hs[kj] := List.getElem?_eq_getElem hjn
  have hslx := HSL.out _ (List.getElem_mem hjn)
  have hcx := hd.rest kj (Nat.le_refl _)
  rw [hx] at hcx
  have hcell : ∀ c, c < 3 → wr.cell? ⟨g, kj * 3 + c, none⟩ = hs[kj].vals[c]? := fun c hc => by
   rw [hd.own.cell (kj * 3 + c) (by omega), yL cur kj c _ hcx hc]
  have htake : hs.take (kj + 1) = hs.take kj ++ [hs[kj]] := List.take_succ_eq_append_getElem hjn
  generalize hs[kj] = x at *
  obtain ⟨ev, ea, eid, eat⟩ := x
  obtain ⟨be, ne, ce, he⟩ := hslx
  have he' : ev = .slice be ne ce := he
  subst he'
  have c0 : wr.cell? ⟨g, kj * 3, none⟩ = some (.slice be ne ce) := hcell 0 (by decide)
  have c1 : wr.cell? ⟨g, kj * 3 + 1, none⟩ = some (.string eid) := hcell 1 (by decide)
  have c2 : wr.cell? ⟨g, kj * 3 + 2, none⟩ = some (.string eat) := hcell 2 (by decide)
  have HTK := zh htake
  have q1 : (0 : Int) ≤ (kj : Int) := by omega
  obtain ⟨b, hb⟩ : ∃ b, b = whoB eid eat id at_ := ⟨_, rfl⟩
  have HCALL := zh (show ∀ W, Below wr.heap.size wr W → Calls Tryz.prog 207 #[.agg #[.slice be ne ce, .string eid, .string eat], .pointer (some ⟨B1, 0, none⟩), .pointer (some ⟨B2, 0, none⟩)] W (BelowPost W (.bool b)) from fun W hW => by
   rw [hb]; exact zhS ((HC.out.fr hd.fr (by decide)).fr (ts := []) (base := 0) (Fr.of_below hW) (by simp)) be ne ce eid eat)
  have HB := zh hb
  clear hcell hx htake he hb hcx hd
  go_wp2_with fail
  refine (HCALL.out _ ((Below.refl _ _).alloc (Nat.le_refl _) _)).mono ?_
  rintro e w2 ⟨rfl, hb2⟩
  have hw2 := below_tr ((Below.refl wr.heap.size wr).alloc (Nat.le_refl _) (.cells #[.slice be ne ce, .string eid, .string eat] 109)) hb2
  have hnew := row_on hb2 (heap_alloc_new wr (.cells #[.slice be ne ce, .string eid, .string eat] 109))
  have b0 := cell_of_row w2 _ 0 _ _ _ hnew
  have b1 := cell_of_row w2 _ 1 _ _ _ hnew
  have b2 := cell_of_row w2 _ 2 _ _ _ hnew
  have lnew : wr.heap.size < w2.heap.size := (Array.getElem?_eq_some_iff.1 hnew).1
  have HO2 := zh (HD.out.own.on hw2)
  have HF2 := zh (HD.out.fr.trans (Fr.of_below hw2))
  clear hb2 hw2 hnew c0 c1 c2
  cases b with
  | true =>
   go_wp2_with fail
   go_roundw
   case rel => exact ⟨ki, kj + 1, rfl, by go_num, by omega, by omega, zh ⟨cur, HD.out.len, by
    rw [HTK.out, yS, zbS _ id at_ HB.out.symm, List.append_nil]; exact HD.out.done, fun t ht => HD.out.rest t (by omega), HO2.out, HF2.out, by omega⟩⟩
   case measure => simp [intOf]; omega
  | false =>
   have hki : ki < cur.length := by have := HD.out.len; omega
   have hy : cur[ki]? = some cur[ki] := List.getElem?_eq_getElem hki
   have d0 : w2.cell? ⟨g, ki * 3, none⟩ = some cur[ki].v := (HO2.out.cell (ki * 3 + 0) (by omega)).trans (yL cur ki 0 _ hy (by decide))
   have d1 : w2.cell? ⟨g, ki * 3 + 1, none⟩ = some (.string cur[ki].id) := (HO2.out.cell (ki * 3 + 1) (by omega)).trans (yL cur ki 1 _ hy (by decide))
   have d2 : w2.cell? ⟨g, ki * 3 + 2, none⟩ = some (.string cur[ki].at_) := (HO2.out.cell (ki * 3 + 2) (by omega)).trans (yL cur ki 2 _ hy (by decide))
   generalize cur[ki] = y at *
   have z0 := HO2.out.frozen (ki * 3)
   have z1 := HO2.out.frozen (ki * 3 + 1)
   have z2 := HO2.out.frozen (ki * 3 + 2)
   have q3 : (0 : Int) ≤ (ki : Int) := by omega
   have HW := zh (show OwnP (((w2.setCell ⟨g, ki * 3, none⟩ (.slice be ne ce)).setCell ⟨g, ki * 3 + 1, none⟩ (.string eid)).setCell ⟨g, ki * 3 + 2, none⟩ (.string eat)) base 109 3 isHd g hs.length cap (flatH (cur.set ki ⟨.slice be ne ce, ea, eid, eat⟩)) ∧ Fr [109] base w2 (((w2.setCell ⟨g, ki * 3, none⟩ (.slice be ne ce)).setCell ⟨g, ki * 3 + 1, none⟩ (.string eid)).setCell ⟨g, ki * 3 + 2, none⟩ (.string eat)) from by
    have s1 := HO2.out.set1 (ki * 3) (.slice be ne ce) (by omega) (.inl ⟨_, _, _, rfl⟩)
    have s2 := s1.set1 (ki * 3 + 1) (.string eid) (by omega) (.inr ⟨_, rfl⟩)
    have s3 := s2.set1 (ki * 3 + 2) (.string eat) (by omega) (.inr ⟨_, rfl⟩)
    rw [zhQ cur ki _ hki]
    exact ⟨s3, ((zbQ HO2.out hd_nb (by simp) _ _).trans (zbQ s1 hd_nb (by simp) _ _)).trans (zbQ s2 hd_nb (by simp) _ _)⟩)
   have HY := zh hy
   clear hy
   go_wp2_with fail
   go_roundw
   case rel => exact ⟨ki + 1, kj + 1, by go_num, by go_num, by omega, by omega, zh ⟨cur.set ki ⟨.slice be ne ce, ea, eid, eat⟩, by rw [List.length_set]; exact HD.out.len, by
    rw [HTK.out, yS, zgI _ id at_ HB.out.symm, zcT _ _ _ hki, HD.out.done], fun t ht => by
     rw [List.getElem?_set_ne (by omega)]; exact HD.out.rest t (by omega), HW.out.1, HF2.out.trans HW.out.2, by omega⟩⟩
   case measure => simp [intOf]; omega
def zhV (w : World) (base T : Nat) (hs : List HV) (last : Option Ad) (id at_ : ByteArray) (e : Ending) (w' : World) : Prop :=
 e = .returned .nilIface ∧ Sto w' base T (zU hs id at_) last ∧ Fr tS base w w'
theorem zbT (base T : Nat) (hs : List HV) (last : Option Ad) (id at_ : ByteArray) (w : World) (h : Sto w base T hs last) :
  Calls Tryz.prog 204 #[.pointer (some ⟨T, 0, none⟩), .string id, .string at_] w (zhV w base T hs last id at_) := by
 have hmf : ∀ (fn : Fn) (first cap : Array Value) (w : World), (Instr.makeFunc fn first cap).run Tryz.prog w = .ok (.func fn first cap) w := fun _ _ _ _ => rfl
 have HS := zh h
 obtain ⟨hv, lv, hT, hrow, hl⟩ := h.rows
 have lT := h.lt
 have hbA : Below w.heap.size w ((w.alloc (.cells #[.string id] 9)).alloc (.cells #[.string at_] 9)) := ((Below.refl _ _).alloc (Nat.le_refl _) _).alloc (by simp) _
 have HBA := zh hbA
 have hn2 := heap_alloc_new (w.alloc (.cells #[.string id] 9)) (.cells #[.string at_] 9)
 rw [World.size_alloc] at hn2
 have HD := zh (zhU base hv hs w.heap.size (w.heap.size + 1) id at_ ((w.alloc (.cells #[.string id] 9)).alloc (.cells #[.string at_] 9)) (hrow.on hbA) (fun x hx => by obtain ⟨b, o, n, c, he⟩ := AdAt.slice (h.ents x hx); exact ⟨_, _, _, he⟩)
  ⟨(heap_alloc_old _ _ (by simp)).trans (heap_alloc_new w _), hn2⟩)
 unfold relFn at HD
 obtain ⟨ao, cap, rfl, _⟩ := hrow.form
 have HT := zh hT
 have HL := zh hl
 have cT : ((w.alloc (.cells #[.string id] 9)).alloc (.cells #[.string at_] 9)).cell? ⟨T, 0, none⟩ = some (.slice ao hs.length cap) := (hbA.cell (p := ⟨T, 0, none⟩) lT).trans (cell_of_row w T 0 _ _ _ hT)
 clear h hT hrow hl hbA hn2
 go_enter Tryz.func204, Tryz.ntmps204
 go_wp2_with fail
 refine HD.out.mono ?_
 rintro e w2 ⟨v', rfl, hr2, hf2⟩
 have HR2 := zh hr2
 have HF2 := zh hf2
 obtain ⟨a2, k2, rfl, _⟩ := hr2.form
 have hT2 := hf2.rows T _ _ _ ((HBA.out.block T lT).trans HT.out) (by decide)
 have HT2 := zh hT2
 have c2 := cell_of_row w2 T 0 _ _ _ hT2
 have z2 := frozen_of_row w2 T 0 _ _ hT2
 clear hr2 hf2 hT2 cT HD
 go_wp2_with fail
 go_ret
 have n2 : ∀ x : UInt8, w2.cell? ⟨T, 0, none⟩ ≠ some (u8v x) := fun x => by rw [cell_of_row w2 T 0 _ _ _ HT2.out]; simp [u8v]
 have hset : Fr [96] base w2 (w2.setCell ⟨T, 0, none⟩ (.slice a2 (zU hs id at_).length k2)) := Fr.set HT2.out (by simp) HS.out.lo n2
 have hF : Fr tS base w (w2.setCell ⟨T, 0, none⟩ (.slice a2 (zU hs id at_).length k2)) := ((Fr.of_below HBA.out).trans (HF2.out.mono (fun t ht => by simp at ht; simp [tS, ht]))).trans (hset.mono (fun t ht => by simp at ht; simp [tS, ht]))
 refine ⟨rfl, ⟨⟨_, _, heap_setCell_same w2 T 0 _ _ _ HT2.out, HR2.out.fr hset (by simp), HL.out.stay hF.bk⟩, fun x hx => ?_, fun x hx => ?_, HS.out.lok, HS.out.lo⟩, hF⟩
 ·exact (HS.out.ents x ((List.mem_filter.1 hx).1)).stay hF.bk
 ·exact HS.out.oks x ((List.mem_filter.1 hx).1)
end Go.Proofs.YtnehofekgnbelaaGreatDoor

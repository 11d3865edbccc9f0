/-
  The reference's desk: rangeOf,
-/
import Derived.Test.YtnehofekgnbelaaGreatDoorY43
import Derived.Test.YtnehofekgnbelaaGreatDoorY27
import Derived.Test.YtnehofekgnbelaaGreatDoorY32
namespace Go.Proofs.YtnehofekgnbelaaGreatDoor
open Go.RowKit
set_option linter.unusedVariables false
set_option maxRecDepth 100000
set_option maxHeartbeats 1000000
def isSh (u : Value) : Prop := (∃ b, u = .bool b) ∨ (∃ n : Int, u = .int .u32 n) ∨ ∃ s, u = .string s
theorem sh_nb (x : UInt8) : ¬ isSh (u8v x) := by rintro (⟨_, h⟩ | ⟨_, h⟩ | ⟨_, h⟩) <;> simp [u8v] at h
def Ent.vals (e : Ent) : List Value := [.bool e.a.six, .int .u32 e.a.n, .string e.id, .string e.at_]
def flatE (es : List Ent) : List Value := es.flatMap Ent.vals
theorem zaB (es : List Ent) (j c : Nat) (e : Ent) (hj : es[j]? = some e) (hc : c < 4) : (flatE es)[j * 4 + c]? = e.vals[c]? := zbF Ent.vals 4 (fun _ => rfl) es j c e hj hc
theorem zaI (es : List Ent) (e : Ent) : flatE (es ++ [e]) = flatE es ++ e.vals := by simp [flatE]
theorem zfA (e : Ent) : ∀ u ∈ e.vals, u.oneCell' = true := by
 intro u hu
 simp only [Ent.vals, List.mem_cons, List.not_mem_nil, or_false] at hu
 rcases hu with rfl | rfl | rfl | rfl <;> rfl
theorem ziU (e : Ent) : ∀ u ∈ e.vals, isSh u := by
 intro u hu
 simp only [Ent.vals, List.mem_cons, List.not_mem_nil, or_false] at hu
 rcases hu with rfl | rfl | rfl | rfl
 ·exact .inl ⟨_, rfl⟩
 ·exact .inr (.inl ⟨_, rfl⟩)
 ·exact .inr (.inr ⟨_, rfl⟩)
 ·exact .inr (.inr ⟨_, rfl⟩)
theorem zlK : (Tryz.prog.info? 87).map (fun i => (i.zero, i.size, i.bytes)) = some (some (.agg #[.bool false, .int .u32 0, .string ⟨#[]⟩, .string ⟨#[]⟩]), 4, 40) := by kernel_rfl
theorem zfB (k : Nat) : ∀ u ∈ (Builtin.zeroCells (Value.agg #[.bool false, .int .u32 0, .string ⟨#[]⟩, .string ⟨#[]⟩]).cells k).toList, isSh u := by
 intro u hu
 unfold Builtin.zeroCells at hu
 simp only [Array.toList_map, List.mem_map] at hu
 obtain ⟨i, _, rfl⟩ := hu
 have hlt : i % 4 < 4 := Nat.mod_lt _ (by decide)
 show isSh (#[Value.bool false, .int .u32 0, .string ⟨#[]⟩, .string ⟨#[]⟩][i % 4]!)
 generalize i % 4 = j at hlt
 obtain rfl | rfl | rfl | rfl : j = 0 ∨ j = 1 ∨ j = 2 ∨ j = 3 := by omega
 ·exact .inl ⟨_, rfl⟩
 ·exact .inr (.inl ⟨_, rfl⟩)
 ·exact .inr (.inr ⟨_, rfl⟩)
 ·exact .inr (.inr ⟨_, rfl⟩)
theorem zeG {ts : List Nat} {base b : Nat} {w w' : World} {e : TypeId} {size : Nat} {v : Value} {n : Nat} {xs : List Value} (h : w.ownsRow b e size v n xs) (hf : Fr ts base w w') (he : e ∉ ts) : w'.ownsRow b e size v n xs := by
 refine ⟨h.1, ?_⟩
 rcases h.2 with hn | ⟨g, cap, cur, hv, hbg, hg, rest⟩
 ·exact .inl hn
 ·exact .inr ⟨g, cap, cur, hv, hbg, hf.rows _ _ _ _ hg he, rest⟩
structure SDesk (w : World) (base D : Nat) (Rs : List RIn) (d : Desk) : Prop where
 rows : ∃ sv hv la, w.heap[D]? = some (.cells #[sv, hv, .bool (Ad.six la), .int .u32 (Ad.n la), .bool d.last.isSome] 81 (0, 0)) ∧ w.ownsRow base 63 9 sv Rs.length (flatS Rs) ∧ RowP w base 87 4 isSh hv d.held.length (flatE d.held) ∧ ∀ a, d.last = some a → la = a
 lo : base ≤ D
theorem SDesk.fr {ts : List Nat} {base D : Nat} {Rs : List RIn} {d : Desk} {w w' : World} (h : SDesk w base D Rs d) (hf : Fr ts base w w') (h1 : 87 ∉ ts) (h2 : 81 ∉ ts) (h3 : 63 ∉ ts) : SDesk w' base D Rs d := by
 obtain ⟨sv, hv, la, hD, hs, hr, hl⟩ := h.rows
 exact ⟨⟨sv, hv, la, hf.rows _ _ _ _ hD h2, zeG hs hf h3, hr.fr hf h1, hl⟩, h.lo⟩
theorem SDesk.on {base D : Nat} {Rs : List RIn} {d : Desk} {w w' : World} (h : SDesk w base D Rs d) (hb : Below w.heap.size w w') : SDesk w' base D Rs d :=
 h.fr (ts := []) (Fr.of_below hb) (by simp) (by simp) (by simp)
theorem SDesk.lt {base D : Nat} {Rs : List RIn} {d : Desk} {w : World} (h : SDesk w base D Rs d) : D < w.heap.size := by
 obtain ⟨sv, hv, la, hD, _⟩ := h.rows
 exact (Array.getElem?_eq_some_iff.1 hD).1
def tD : List Nat := [87, 81]
theorem xF (w : World) (b b' : Bool) (x y : Int) : (binOp .eql 56 (.agg #[.bool b, .int .u32 x]) (.agg #[.bool b', .int .u32 y])).run Tryz.prog w = .ok (.bool ((b == b') && (x == y))) w := by
 have h1 : Tryz.prog.underlying 56 = some (.struct (Tryz.prog.fieldsOf 56)) := by kernel_rfl
 have h2 : Tryz.prog.stoodInHeld 56 = false := by kernel_rfl
 rw [run_eql_struct, run_equalIn_agg w 9999 _ _ _ h1 h2]
 obtain ⟨f, g, hf, n1, n2, o1, o2, t1, t2⟩ := zbI
 rw [hf]
 have u1 : Tryz.prog.underlying 4 = some .bool := by kernel_rfl
 have u2 : Tryz.prog.underlying 54 = some (.int .u32) := by kernel_rfl
 have p1 : ∀ w, (part 4 #[.bool b, .int .u32 x] 0).run Tryz.prog w = .ok (.bool b) w := fun w => by kernel_rfl
 have p1' : ∀ w, (part 4 #[.bool b', .int .u32 y] 0).run Tryz.prog w = .ok (.bool b') w := fun w => by kernel_rfl
 have p2 : ∀ w, (part 54 #[.bool b, .int .u32 x] 1).run Tryz.prog w = .ok (.int .u32 x) w := fun w => by kernel_rfl
 have p2' : ∀ w, (part 54 #[.bool b', .int .u32 y] 1).run Tryz.prog w = .ok (.int .u32 y) w := fun w => by kernel_rfl
 have e1 : ∀ w, (Op.equalIn 9999 4 (.bool b) (.bool b')).run Tryz.prog w = .ok (b == b') w := fun w => run_equalIn_bool' w 9998 _ _ _ u1
 have e2 : ∀ w, (Op.equalIn 9999 54 (.int .u32 x) (.int .u32 y)).run Tryz.prog w = .ok (x == y) w := fun w => run_equalIn_int w 9998 _ .u32 .u32 _ _ u2
 simp only [Op.eqFields, n1, n2, o1, o2, t1, t2, ne_eq, not_false_eq_true, if_true, Sem.run_bind, p1, p1', p2, p2', e1, e2, Result.andThen_ok, Sem.run_ite]
 cases hb : (b == b') <;> cases hx : (x == y) <;> simp [Sem.run_pure, Result.andThen_ok]
theorem xT (a b : Ad) : ((a.six == b.six) && ((a.n : Int) == (b.n : Int))) = decide (a = b) := by
 rw [Bool.eq_iff_iff, Bool.and_eq_true, beq_iff_eq, beq_iff_eq, decide_eq_true_eq]
 constructor
 ·rintro ⟨h1, h2⟩
  exact Ad.eq' h1 (by omega)
 ·rintro rfl
  exact ⟨rfl, rfl⟩
theorem yR {w : World} {OB D j : Nat} {x y v : Value} (h : w.cell? ⟨OB, 0, none⟩ = some x ∧ w.cell? ⟨OB, 1, none⟩ = some y) (hn : OB ≠ D) : (w.setCell ⟨D, j, none⟩ v).cell? ⟨OB, 0, none⟩ = some x ∧ (w.setCell ⟨D, j, none⟩ v).cell? ⟨OB, 1, none⟩ = some y :=
 ⟨(World.cell?_setCell_other _ _ _ _ (fun e => hn (congrArg Addr.block e).symm)).trans h.1, (World.cell?_setCell_other _ _ _ _ (fun e => hn (congrArg Addr.block e).symm)).trans h.2⟩
def ResS (w : World) (base D : Nat) (Rs : List RIn) (d : Desk) (a : Ad) (id at_ : ByteArray) (e : Ending) (w' : World) : Prop :=
 (hasA d.ads a = true ∧ e = .returned (.bool false) ∧ Below w.heap.size w w') ∨
 (hasA d.ads a = false ∧ e = .returned (.bool true) ∧ SDesk w' base D Rs ⟨d.held ++ [⟨a, id, at_⟩], some a⟩ ∧ Fr tD base w w')
theorem xG (base D : Nat) (Rs : List RIn) (d : Desk) (a : Ad) (id at_ : ByteArray) (w : World) (h : SDesk w base D Rs d) (hn : d.held.length ≤ 1000) (hB : base ≤ w.heap.size) :
  Calls Tryz.prog 35 #[.pointer (some ⟨D, 0, none⟩), adv a, .string id, .string at_] w (ResS w base D Rs d a id at_) := by
 have HS := zh h
 have heql : ∀ (w : World) (b b' : Bool) (x y : Int), _ := fun w b b' x y => xF w b b' x y
 have hge : ∀ (op : BinOp) (x y : Operand) (xs ys : Array Value) (w : World), _ := fun op x y xs ys w => yU op x y xs ys w
 obtain ⟨sv, hv, la, hD, hset, hrow, hl⟩ := h.rows
 obtain ⟨ao, cap, rfl, hc1, hc2, hnone, hsome⟩ := hrow.form
 have HN := zh hnone
 have HSM := zh hsome
 have HD := zh hD
 have HROW := zh hrow
 have HSET := zh hset
 have cT : w.cell? ⟨D, 1, none⟩ = some (.slice ao d.held.length cap) := cell_of_row w D 1 _ _ _ hD
 have lT := h.lt
 obtain ⟨i0, hi', hz⟩ := Option.map_eq_some_iff.1 zlK
 simp only [Prod.mk.injEq] at hz
 obtain ⟨hz0, hz1, hz2⟩ := hz
 have HI0 := zh hi'
 have HZ0 := zh hz0
 have HZ1 := zh hz1
 have HZ2 := zh hz2
 unfold maxLen at hc2
 unfold adv
 clear h hD hset hrow hl hnone hsome hi' hz0 hz1 hz2
 go_enter Tryz.func35, Tryz.ntmps35
 go_wp2_with fail
 obtain ⟨OB, hOB⟩ : ∃ OB, OB = w.heap.size := ⟨_, rfl⟩
 have hbox := heap_alloc_new w (.cells #[.bool a.six, .int .u32 a.n] 56)
 have hba : Below w.heap.size w (w.alloc (.cells #[.bool a.six, .int .u32 a.n] 56)) := (Below.refl _ _).alloc (Nat.le_refl _) _
 rw [← hOB] at hbox ⊢
 have HBOX := zh hbox
 have HBA := zh hba
 have HOB := zh hOB
 clear hbox hba hOB
 generalize w.alloc (.cells #[.bool a.six, .int .u32 a.n] 56) = wA at HBOX HBA ⊢
 go_loopw [16] (fun i wr => ∃ k : Nat, i = .int .i64 k ∧ k ≤ d.held.length ∧ Hid (Below wA.heap.size wA wr ∧ ∀ (j : Nat) (x : Ent), j < k → d.held[j]? = some x → x.a ≠ a)) (fun i _ => d.held.length - (intOf i).toNat)
 case atStart => exact ⟨0, rfl, by omega, zh ⟨Below.refl _ _, fun j x hj => absurd hj (by omega)⟩⟩
 case round =>
  obtain ⟨k, rfl, hk, hr⟩ := hrel
  have hbox := row_on hr.out.1 HBOX.out
  have b0 := cell_of_row wr OB 0 _ _ _ hbox
  have b1 := cell_of_row wr OB 1 _ _ _ hbox
  have lB := (Array.getElem?_eq_some_iff.1 hbox).1
  by_cases hlt : k < d.held.length
  ·have tk : decide ((k : Int) < d.held.length) = true := decide_eq_true (by omega)
   obtain ⟨ad, hao⟩ : ∃ ad, ao = some ad := by
    cases ao with
    | none => have := (HN.out rfl).1; omega
    | some ad => exact ⟨ad, rfl⟩
   obtain ⟨g, hg, ho⟩ := HSM.out ad hao
   subst hg
   subst hao
   have hx : d.held[k]? = some d.held[k] := List.getElem?_eq_getElem hlt
   have hcell : ∀ c, c < 4 → wr.cell? ⟨g, k * 4 + c, none⟩ = d.held[k].vals[c]? := fun c hc => by
    rw [hr.out.1.cell (Nat.lt_of_lt_of_le ho.lt HBA.out.size), HBA.out.cell ho.lt, ho.cell (k * 4 + c) (by omega), zaB d.held k c _ hx hc]
   have hglt := Nat.lt_of_lt_of_le (Nat.lt_of_lt_of_le ho.lt HBA.out.size) hr.out.1.size
   generalize d.held[k] = x at *
   obtain ⟨xa, xid, xat⟩ := x
   have c0 : wr.cell? ⟨g, k * 4, none⟩ = some (.bool xa.six) := hcell 0 (by decide)
   have c1 : wr.cell? ⟨g, k * 4 + 1, none⟩ = some (.int .u32 xa.n) := hcell 1 (by decide)
   have c2 : wr.cell? ⟨g, k * 4 + 2, none⟩ = some (.string xid) := hcell 2 (by decide)
   have c3 : wr.cell? ⟨g, k * 4 + 3, none⟩ = some (.string xat) := hcell 3 (by decide)
   have HX := zh hx
   have q1 : (0 : Int) ≤ (k : Int) := by omega
   clear hcell ho hx
   by_cases e : xa = a
   ·have HE := zh (show hasA d.ads a = true from List.any_eq_true.2 ⟨xa, List.mem_map.2 ⟨_, List.mem_of_getElem? HX.out, rfl⟩, decide_eq_true e⟩)
    subst e
    go_wp2_with fail
    go_ret
    exact .inl ⟨HE.out, by simp, below_tr HBA.out (hr.out.1.alloc hr.out.1.size _)⟩
   ·have q2 : ((xa.six == a.six) && ((xa.n : Int) == (a.n : Int))) = false := by rw [xT, decide_eq_false e]
    have HE := zh e
    clear e
    go_wp2_with fail
    go_roundw
    case rel => exact ⟨k + 1, by simp, by omega, zh ⟨hr.out.1.alloc hr.out.1.size _, fun j y hj hjy => by
     by_cases e : j = k
     ·subst e
      rw [HX.out] at hjy
      cases hjy
      exact HE.out
     ·exact hr.out.2 j y (by omega) hjy⟩⟩
    case measure => simp [intOf]; omega
  ·obtain rfl : k = d.held.length := by omega
   have tk : decide ((d.held.length : Int) < d.held.length) = false := decide_eq_false (by omega)
   have HB := zh (below_tr HBA.out hr.out.1)
   have cT2 : wr.cell? ⟨D, 1, none⟩ = some (.slice ao d.held.length cap) := (HB.out.cell (p := ⟨D, 1, none⟩) lT).trans cT
   have HALL := zh (show hasA d.ads a = false from List.any_eq_false.2 (fun y hy => by
    obtain ⟨x, hx, rfl⟩ := List.mem_map.1 hy
    obtain ⟨j, hj⟩ := List.getElem?_of_mem hx
    simpa using hr.out.2 j x (List.getElem?_eq_some_iff.1 hj).1 hj))
   have HBX := zh hbox
   clear hr cT hbox
   go_wp2_with fail
   refine xN (st := 16) (C := (fun w' => w'.cell? ⟨D, 1, none⟩ = some (.slice ao d.held.length cap))) (D := (fun w' => w'.cell? ⟨OB, 0, none⟩ = some (.bool a.six) ∧ w'.cell? ⟨OB, 1, none⟩ = some (.int .u32 a.n))) (by kernel_rfl) ?_ ?_ ?_
   ·exact ⟨b0, b1⟩
   ·exact cT2
   refine takeD 0 25 ?v0x1 (by rfl) (by kernel_rfl) (by kernel_rfl) (by kernel_rfl) (by kernel_rfl) (by kernel_rfl) (fun _ _ _ _ h => h) (by kernel_rfl) ?hy0x1 ?nx0x1
   case hy0x1 =>
    intro w' hDw
    go_simp
    try with_reducible rfl
   simp only [sA, sB, sC]
   refine takeD 1 26 ?v1x2 (by rfl) (by kernel_rfl) (by kernel_rfl) (by kernel_rfl) (by kernel_rfl) (by kernel_rfl) (fun _ _ _ _ h => h) (by kernel_rfl) ?hy1x2 ?nx1x2
   case hy1x2 =>
    intro w' hDw
    go_simp
    try with_reducible rfl
   simp only [sA, sB, sC]
   refine takeD 2 27 ?v2x3 (by rfl) (by kernel_rfl) (by kernel_rfl) (by kernel_rfl) (by kernel_rfl) (by kernel_rfl) (fun _ _ _ _ h => h) (by kernel_rfl) ?hy2x3 ?nx2x3
   case hy2x3 =>
    intro w' hDw
    go_simp
    try with_reducible rfl
   simp only [sA, sB, sC]
   refine takeD 3 28 ?v3x4 (by rfl) (by kernel_rfl) (by kernel_rfl) (by kernel_rfl) (by kernel_rfl) (by kernel_rfl) (fun _ _ _ _ h => h) (by kernel_rfl) ?hy3x4 ?nx3x4
   case hy3x4 =>
    intro w' hDw
    go_simp
    try with_reducible rfl
   simp only [sA, sB, sC]
   refine takeD 4 29 ?v4x5 (by rfl) (by kernel_rfl) (by kernel_rfl) (by kernel_rfl) (by kernel_rfl) (by kernel_rfl) (fun _ _ _ _ h => h) (by kernel_rfl) ?hy4x5 ?nx4x5
   case hy4x5 =>
    intro w' hDw
    go_simp
    try with_reducible rfl
   simp only [sA, sB, sC]
   refine takeD 5 30 ?v5x6 (by rfl) (by kernel_rfl) (by kernel_rfl) (by kernel_rfl) (by kernel_rfl) (by kernel_rfl) (fun _ _ _ _ h => h) (by kernel_rfl) ?hy5x6 ?nx5x6
   case hy5x6 =>
    intro w' hDw
    go_simp
    try with_reducible rfl
   simp only [sA, sB, sC]
   refine takeC 6 31 ?v6x7 (by rfl) (by kernel_rfl) (by kernel_rfl) (by kernel_rfl) (by kernel_rfl) (by kernel_rfl) (fun _ _ _ _ h => h) (by kernel_rfl) (by kernel_rfl) ?hy6x7 ?nx6x7
   case hy6x7 =>
    intro w' hCw hDw
    go_simp
    try with_reducible rfl
   simp only [sA, sB, sC]
   refine takeD 7 32 ?v7x8 (by rfl) (by kernel_rfl) (by kernel_rfl) (by kernel_rfl) (by kernel_rfl) (by kernel_rfl) (fun _ _ _ _ h => h) (by kernel_rfl) ?hy7x8 ?nx7x8
   case hy7x8 =>
    intro w' hDw
    go_simp
    try with_reducible rfl
   simp only [sA, sB, sC]
   refine takeD 8 33 ?v8x9 (by rfl) (by kernel_rfl) (by kernel_rfl) (by kernel_rfl) (by kernel_rfl) (by kernel_rfl) (fun _ _ _ _ h => h) (by kernel_rfl) ?hy8x9 ?nx8x9
   case hy8x9 =>
    intro w' hDw
    go_simp
    try with_reducible rfl
   simp only [sA, sB, sC]
   refine takeD 9 34 ?v9x10 (by rfl) (by kernel_rfl) (by kernel_rfl) (by kernel_rfl) (by kernel_rfl) (by kernel_rfl) (fun _ _ _ _ h => h) (by kernel_rfl) ?hy9x10 ?nx9x10
   case hy9x10 =>
    intro w' hDw
    go_simp
    try with_reducible rfl
   simp only [sA, sB, sC]
   refine takeD 10 35 ?v10x11 (by rfl) (by kernel_rfl) (by kernel_rfl) (by kernel_rfl) (by kernel_rfl) (by kernel_rfl) (fun _ _ _ _ h => h) (by kernel_rfl) ?hy10x11 ?nx10x11
   case hy10x11 =>
    intro w' hDw
    go_simp
    try with_reducible rfl
   simp only [sA, sB, sC]
   refine takeD 13 38 ?v13x12 (by rfl) (by kernel_rfl) (by kernel_rfl) (by kernel_rfl) (by kernel_rfl) (by kernel_rfl) (fun _ _ _ _ h => h) (by kernel_rfl) ?hy13x12 ?nx13x12
   case hy13x12 =>
    intro w' hDw
    go_simp
    try with_reducible rfl
   simp only [sA, sB, sC]
   refine zdG 11 (by kernel_rfl) (by rfl) (fun K hK => ?_)
   go_simp
   refine hK.out _ _ ?_ ?_ ?_
   ·go_keep
   ·go_keep
   clear hK K
   try simp only [Act.put, sA, sB, sC]
   have HNEW := zh (show ∀ (j : Nat) (u : Value), ((⟨a, id, at_⟩ : Ent).vals)[j]? = some u → (wr.alloc (.cells #[.bool a.six, .int .u32 a.n, .string id, .string at_] 87)).drew.cell? ((⟨wr.heap.size, 0, none⟩ : Addr).add j) = some u from fun j u hu => by
    show (wr.alloc (.cells #[.bool a.six, .int .u32 a.n, .string id, .string at_] 87)).cell? _ = _
    rw [Addr.add_lit, Nat.zero_add, cell_of_row _ _ j _ _ _ (heap_alloc_new wr _), ← hu, List.getElem?_toArray]
    rfl)
   have HBN := zh (below_drewN (HB.out.alloc HB.out.size (.cells #[.bool a.six, .int .u32 a.n, .string id, .string at_] 87)) 1)
   have HROW2 := zh (HROW.out.on HBN.out)
   refine zdG 12 (by kernel_rfl) (by rfl) (fun K hK => ?_)
   refine zW _ (by rfl) _ _ 79 (by rfl) base 87 i0 (.agg #[.bool false, .int .u32 0, .string ⟨#[]⟩, .string ⟨#[]⟩]) 4 40 isSh Tryz.underlying79 HI0.out HZ0.out HZ1.out HZ2.out (by rfl) (by decide) zfB (.slice ao d.held.length cap) d.held.length (flatE d.held) (by rfl) HROW2.out ⟨wr.heap.size, 0, none⟩ 1 1 ((⟨a, id, at_⟩ : Ent).vals) (by rfl) (by rfl) HNEW.out (zfA _) (ziU _) (by decide) (by unfold maxLen; omega) (by omega) (Nat.le_trans hB HBN.out.size) ?_
   intro g' cap' w3 hown hg hgg
   have HFR := zh (show Fr tD base (wr.alloc (.cells #[.bool a.six, .int .u32 a.n, .string id, .string at_] 87)).drew w3 from HROW2.out.fr_grown sh_nb (by simp [tD]) hg)
   have HOWN := zh hown
   have hD3 : w3.heap[D]? = some (.cells #[sv, .slice ao d.held.length cap, .bool la.six, .int .u32 la.n, .bool d.last.isSome] 81 (0, 0)) := by
    rw [hg.block D (Nat.lt_of_lt_of_le lT HBN.out.size) (fun e => ?_)]
    ·exact (HBN.out.block D lT).trans HD.out
    ·rcases HROW2.out with ⟨h0, _⟩ | ⟨g0, c0, h0, ho⟩
     ·rw [h0] at e
      simp [Value.ownBlock] at e
     ·rw [h0] at e
      have e' : D = g0 := by simpa [Value.ownBlock] using e
      obtain ⟨_, _, _, _, cur, h5, _⟩ := ho
      exact yJ ((HBN.out.block D lT).trans HD.out) h5 (by decide) e'
   have hbx3 : w3.heap[OB]? = some (.cells #[.bool a.six, .int .u32 a.n] 56 (0, 0)) := HFR.out.rows _ _ _ _ (by
    show (wr.alloc (.cells #[.bool a.six, .int .u32 a.n, .string id, .string at_] 87)).heap[OB]? = _
    exact (heap_alloc_old _ _ lB).trans HBX.out) (by decide)
   have HD3 := zh hD3
   have cT4 := cell_of_row w3 D 1 _ _ _ hD3
   have zT1 := frozen_of_row w3 D 1 _ _ hD3
   have zT2 := frozen_of_row w3 D 2 _ _ hD3
   have zT3 := frozen_of_row w3 D 3 _ _ hD3
   have zT4 := frozen_of_row w3 D 4 _ _ hD3
   have x2 := cell_of_row w3 D 2 _ _ _ hD3
   have x3 := cell_of_row w3 D 3 _ _ _ hD3
   have x4 := cell_of_row w3 D 4 _ _ _ hD3
   have b0 := cell_of_row w3 OB 0 _ _ _ hbx3
   have b1 := cell_of_row w3 OB 1 _ _ _ hbx3
   have nDB : OB ≠ D := yJ hbx3 hD3 (by decide)
   clear hown hg hgg hD3 hbx3
   refine hK.out _ _ ?_ ?_ ?_
   ·exact ⟨b0, b1⟩
   ·exact cT4
   clear hK K
   try simp only [Act.put, List.setIfInBounds_toArray]
   refine takeD 14 39 ?v14x13 (by rfl) (by kernel_rfl) (by kernel_rfl) (by kernel_rfl) (by kernel_rfl) (by kernel_rfl) (fun _ _ _ _ h => h) (by kernel_rfl) ?hy14x13 ?nx14x13
   case hy14x13 =>
    intro w' hDw
    go_simp
    try with_reducible rfl
   simp only [sA, sB, sC]
   refine takeD 15 40 ?v15x14 (by rfl) (by kernel_rfl) (by kernel_rfl) (by kernel_rfl) (by kernel_rfl) (by kernel_rfl) (fun _ _ _ _ h => h) (by kernel_rfl) ?hy15x14 ?nx15x14
   case hy15x14 =>
    intro w' hDw
    go_simp
    try with_reducible rfl
   simp only [sA, sB, sC]
   refine zdH 16 (by kernel_rfl) (by rfl) (by kernel_rfl) (fun K hK => ?_)
   go_simp
   refine hK.out _ _ ?_ ?_
   ·exact yR ⟨b0, b1⟩ nDB
   clear hK K
   try simp only [Act.put]
   refine takeD 17 41 ?v17x15 (by rfl) (by kernel_rfl) (by kernel_rfl) (by kernel_rfl) (by kernel_rfl) (by kernel_rfl) (fun _ _ _ _ h => h) (by kernel_rfl) ?hy17x15 ?nx17x15
   case hy17x15 =>
    intro w' hDw
    go_simp
    try with_reducible rfl
   simp only [sA, sB, sC]
   refine takeD 18 42 ?v18x16 (by rfl) (by kernel_rfl) (by kernel_rfl) (by kernel_rfl) (by kernel_rfl) (by kernel_rfl) (fun _ _ _ _ h => h) (by kernel_rfl) ?hy18x16 ?nx18x16
   case hy18x16 =>
    intro w' hDw
    go_simp
    try with_reducible rfl
   simp only [sA, sB, sC]
   refine zdH 19 (by kernel_rfl) (by rfl) (by kernel_rfl) (fun K hK => ?_)
   go_simp
   refine hK.out _ _ ?_ ?_
   ·exact yR (yR (yR ⟨b0, b1⟩ nDB) nDB) nDB
   clear hK K
   try simp only [Act.put]
   refine takeD 20 43 ?v20x17 (by rfl) (by kernel_rfl) (by kernel_rfl) (by kernel_rfl) (by kernel_rfl) (by kernel_rfl) (fun _ _ _ _ h => h) (by kernel_rfl) ?hy20x17 ?nx20x17
   case hy20x17 =>
    intro w' hDw
    go_simp
    try with_reducible rfl
   simp only [sA, sB, sC]
   refine takeD 21 44 ?v21x18 (by rfl) (by kernel_rfl) (by kernel_rfl) (by kernel_rfl) (by kernel_rfl) (by kernel_rfl) (fun _ _ _ _ h => h) (by kernel_rfl) ?hy21x18 ?nx21x18
   case hy21x18 =>
    intro w' hDw
    go_simp
    try with_reducible rfl
   simp only [sA, sB, sC]
   refine zdH 22 (by kernel_rfl) (by rfl) (by kernel_rfl) (fun K hK => ?_)
   go_simp
   refine hK.out _ _ ?_ ?_
   ·exact yR (yR (yR (yR ⟨b0, b1⟩ nDB) nDB) nDB) nDB
   clear hK K
   try simp only [Act.put]
   refine doneC (by kernel_rfl) ?_ _
   have r1 : (w3.setCell ⟨D, 1, none⟩ (.slice (some ⟨g', 0, none⟩) (d.held.length + 1) cap')).heap[D]? = some (.cells #[sv, .slice (some ⟨g', 0, none⟩) (d.held.length + 1) cap', .bool la.six, .int .u32 la.n, .bool d.last.isSome] 81 (0, 0)) := heap_setCell_same w3 D 1 _ _ _ HD3.out
   have n1 : ∀ x : UInt8, w3.cell? ⟨D, 1, none⟩ ≠ some (u8v x) := fun x => by rw [cT4]; simp [u8v]
   have f1 : Fr [81] base w3 (w3.setCell ⟨D, 1, none⟩ (.slice (some ⟨g', 0, none⟩) (d.held.length + 1) cap')) := Fr.set HD3.out (by simp) HS.out.lo n1
   generalize w3.setCell ⟨D, 1, none⟩ (.slice (some ⟨g', 0, none⟩) (d.held.length + 1) cap') = v1 at r1 f1 ⊢
   have r2 : (v1.setCell ⟨D, 2, none⟩ (.bool a.six)).heap[D]? = some (.cells #[sv, .slice (some ⟨g', 0, none⟩) (d.held.length + 1) cap', .bool a.six, .int .u32 la.n, .bool d.last.isSome] 81 (0, 0)) := heap_setCell_same v1 D 2 _ _ _ r1
   have n2 : ∀ x : UInt8, v1.cell? ⟨D, 2, none⟩ ≠ some (u8v x) := fun x => by rw [cell_of_row v1 D 2 _ _ _ r1]; simp [u8v]
   have f2 : Fr [81] base v1 (v1.setCell ⟨D, 2, none⟩ (.bool a.six)) := Fr.set r1 (by simp) HS.out.lo n2
   generalize v1.setCell ⟨D, 2, none⟩ (.bool a.six) = v2 at r2 f2 ⊢
   have r3 : (v2.setCell ⟨D, 3, none⟩ (.int .u32 a.n)).heap[D]? = some (.cells #[sv, .slice (some ⟨g', 0, none⟩) (d.held.length + 1) cap', .bool a.six, .int .u32 a.n, .bool d.last.isSome] 81 (0, 0)) := heap_setCell_same v2 D 3 _ _ _ r2
   have n3 : ∀ x : UInt8, v2.cell? ⟨D, 3, none⟩ ≠ some (u8v x) := fun x => by rw [cell_of_row v2 D 3 _ _ _ r2]; simp [u8v]
   have f3 : Fr [81] base v2 (v2.setCell ⟨D, 3, none⟩ (.int .u32 a.n)) := Fr.set r2 (by simp) HS.out.lo n3
   generalize v2.setCell ⟨D, 3, none⟩ (.int .u32 a.n) = v3 at r3 f3 ⊢
   have r4 : (v3.setCell ⟨D, 4, none⟩ (.bool true)).heap[D]? = some (.cells #[sv, .slice (some ⟨g', 0, none⟩) (d.held.length + 1) cap', .bool a.six, .int .u32 a.n, .bool true] 81 (0, 0)) := heap_setCell_same v3 D 4 _ _ _ r3
   have n4 : ∀ x : UInt8, v3.cell? ⟨D, 4, none⟩ ≠ some (u8v x) := fun x => by rw [cell_of_row v3 D 4 _ _ _ r3]; simp [u8v]
   have f4 : Fr [81] base v3 (v3.setCell ⟨D, 4, none⟩ (.bool true)) := Fr.set r3 (by simp) HS.out.lo n4
   generalize v3.setCell ⟨D, 4, none⟩ (.bool true) = v4 at r4 f4 ⊢
   have HR4 := zh r4
   have HF4 := zh (((f1.trans f2).trans f3).trans f4)
   clear r1 r2 r3 r4 n1 n2 n3 n4 f1 f2 f3 f4 cT4 zT1 zT2 zT3 zT4 x2 x3 x4 b0 b1
   go_wp2_with fail
   go_ret
   have hF : Fr tD base w v4 := ((Fr.of_below HBN.out).trans HFR.out).trans (HF4.out.mono (fun t ht => by simp at ht; simp [tD, ht]))
   refine .inr ⟨HALL.out, rfl, ⟨⟨sv, _, a, HR4.out, zeG HSET.out hF (by decide), .inr ⟨g', cap', by simp, ?_⟩, fun b hb => by cases hb; rfl⟩, HS.out.lo⟩, hF⟩
   have := HOWN.out.fr HF4.out (by decide)
   rw [show (d.held ++ [(⟨a, id, at_⟩ : Ent)]).length = d.held.length + 1 by simp, zaI]
   exact this
def rngI (Rs : List RIn) (a : Ad) : Int := match Rs.findIdx? fun R => inR R a with
 | none => -1
 | some i => i
theorem ziV {Rs : List RIn} {a : Ad} {k : Nat} {R : RIn} (hR : Rs[k]? = some R) (h : inR R a = true) (hno : ∀ (j : Nat) (R : RIn), j < k → Rs[j]? = some R → inR R a = false) : Rs.findIdx? (fun R => inR R a) = some k := by
 obtain ⟨hk, e⟩ := List.getElem?_eq_some_iff.1 hR
 rw [List.findIdx?_eq_some_iff_getElem]
 refine ⟨hk, by rw [e]; exact h, fun j hj => ?_⟩
 rw [hno j _ hj (List.getElem?_eq_getElem (by omega))]
 decide
theorem ziW {Rs : List RIn} {a : Ad} (hno : ∀ (j : Nat) (R : RIn), j < Rs.length → Rs[j]? = some R → inR R a = false) : Rs.findIdx? (fun R => inR R a) = none := by
 rw [List.findIdx?_eq_none_iff]
 intro R hR
 obtain ⟨j, hj⟩ := List.getElem?_of_mem hR
 exact hno j R (List.getElem?_eq_some_iff.1 hj).1 hj
theorem zaR (base D : Nat) (Rs : List RIn) (d : Desk) (a : Ad) (w : World) (h : SDesk w base D Rs d) (h4 : Rs.length ≤ 1000) :
  Calls Tryz.prog 90 #[.pointer (some ⟨D, 0, none⟩), adv a] w (BelowPost w (.int .i64 (rngI Rs a))) := by
 obtain ⟨sv, hv, la, hD, hset, hrow, hl⟩ := h.rows
 obtain ⟨av, cv, rfl, hav⟩ := yK hset
 have HAV := zh hav
 have HSET := zh hset
 have cT : w.cell? ⟨D, 0, none⟩ = some (.slice av Rs.length cv) := cell_of_row w D 0 _ _ _ hD
 have lT := h.lt
 unfold adv
 clear h hD hset hrow hl hav
 go_enter Tryz.func90, Tryz.ntmps90
 go_wp2_with fail
 obtain ⟨OB, hOB⟩ : ∃ OB, OB = w.heap.size := ⟨_, rfl⟩
 have hbox := heap_alloc_new w (.cells #[.bool a.six, .int .u32 a.n] 56)
 have hba : Below w.heap.size w (w.alloc (.cells #[.bool a.six, .int .u32 a.n] 56)) := (Below.refl _ _).alloc (Nat.le_refl _) _
 rw [← hOB] at hbox ⊢
 have HBOX := zh hbox
 have HBA := zh hba
 have HOB := zh hOB
 clear hbox hba hOB cT
 generalize w.alloc (.cells #[.bool a.six, .int .u32 a.n] 56) = wA at HBOX HBA ⊢
 go_loopw [12] (fun i wr => ∃ k : Nat, i = .int .i64 k ∧ k ≤ Rs.length ∧ Hid (Below wA.heap.size wA wr ∧ ∀ (j : Nat) (R : RIn), j < k → Rs[j]? = some R → inR R a = false)) (fun i _ => Rs.length - (intOf i).toNat)
 case atStart => exact ⟨0, rfl, by omega, zh ⟨Below.refl _ _, fun j x hj => absurd hj (by omega)⟩⟩
 case round =>
  obtain ⟨k, rfl, hk, hr⟩ := hrel
  have hbox := row_on hr.out.1 HBOX.out
  have b0 : wr.cell? ⟨OB, 0, none⟩ = some (.bool a.six) := cell_of_row wr OB 0 _ _ _ hbox
  have b1 : wr.cell? ⟨OB, 1, none⟩ = some (.int .u32 a.n) := cell_of_row wr OB 1 _ _ _ hbox
  have lB := (Array.getElem?_eq_some_iff.1 hbox).1
  clear hbox
  by_cases hlt : k < Rs.length
  ·have tk : decide ((k : Int) < Rs.length) = true := decide_eq_true (by omega)
   obtain ⟨g, rfl⟩ := HAV.out (by omega)
   have hR : Rs[k]? = some Rs[k] := List.getElem?_eq_getElem hlt
   generalize Rs[k] = R at hR
   have hset := zbM HSET.out (below_tr HBA.out hr.out.1)
   have hc : ∀ c, c < 9 → wr.cell? ⟨g, k * 9 + c, none⟩ = (spanL R)[c]? := fun c hc => (hset.cellAt (k * 9 + c) (by omega)).trans (yZ _ _ _ _ hR hc)
   have q0 : wr.cell? ⟨g, k * 9, none⟩ = some (.bool R.a.six) := hc 0 (by decide)
   have q1 : wr.cell? ⟨g, k * 9 + 1, none⟩ = some (.int .u32 R.a.n) := hc 1 (by decide)
   have q2 : wr.cell? ⟨g, k * 9 + 2, none⟩ = some (.int .i64 R.free) := hc 2 (by decide)
   have q3 : wr.cell? ⟨g, k * 9 + 3, none⟩ = some (.bool (zB R).six) := hc 3 (by decide)
   have q4 : wr.cell? ⟨g, k * 9 + 4, none⟩ = some (.int .u32 (zB R).n) := hc 4 (by decide)
   have q5 : wr.cell? ⟨g, k * 9 + 5, none⟩ = some (.bool (zC R).six) := hc 5 (by decide)
   have q6 : wr.cell? ⟨g, k * 9 + 6, none⟩ = some (.int .u32 (zC R).n) := hc 6 (by decide)
   have q7 : wr.cell? ⟨g, k * 9 + 7, none⟩ = some (.bool (zE R).six) := hc 7 (by decide)
   have q8 : wr.cell? ⟨g, k * 9 + 8, none⟩ = some (.int .u32 (zE R).n) := hc 8 (by decide)
   have gz : g < wr.heap.size := World.block_lt_of_cell? wr _ q0
   have hhas := zeJ R.a (zB R) (zC R) (zE R) a R.free
   rw [show hasB R.a (zB R) (zC R) a = inR R a from rfl] at hhas
   unfold spanv adv at hhas
   obtain ⟨gb, hgb⟩ : ∃ gb, gb = inR R a := ⟨_, rfl⟩
   rw [← hgb] at hhas
   have HHAS := zh hhas
   have HR := zh hR
   have HGB := zh hgb
   clear hc hset hR hhas hgb
   go_wp2_with fail
   refine (HHAS.out _).mono ?_
   rintro e w3 ⟨rfl, hb3⟩
   have HB3 := zh (below_tr (hr.out.1.alloc hr.out.1.size _) hb3)
   clear hb3 q0 q1 q2 q3 q4 q5 q6 q7 q8 HHAS b0 b1
   cases gb with
   | true =>
    go_wp2_with fail
    go_ret
    exact ⟨by unfold rngI; rw [ziV HR.out HGB.out.symm hr.out.2]; rfl, below_tr HBA.out HB3.out⟩
   | false =>
    go_wp2_with fail
    go_roundw
    case rel => exact ⟨k + 1, by simp, by omega, zh ⟨HB3.out, fun j Q hj hQ => by
     by_cases e : j = k
     ·subst e
      rw [HR.out] at hQ
      cases hQ
      exact HGB.out.symm
     ·exact hr.out.2 j Q (by omega) hQ⟩⟩
    case measure => simp [intOf]; omega
  ·obtain rfl : k = Rs.length := by omega
   have tk : decide ((Rs.length : Int) < Rs.length) = false := decide_eq_false (by omega)
   go_wp2_with fail
   go_ret
   exact ⟨by unfold rngI; rw [ziW hr.out.2]; rfl, below_tr HBA.out hr.out.1⟩
theorem zmZ (t d : List UInt8) : (⟨t.toArray⟩ : ByteArray) ++ ⟨#[47]⟩ ++ ⟨d.toArray⟩ = ⟨(t ++ 47 :: d).toArray⟩ := bs_of (by
 rw [bl_add, bl_add]
 simp [bl])
theorem zcL (base D : Nat) (Rs : List RIn) (d : Desk) (a : Ad) (i : Nat) (R : RIn) (w : World) (h : SDesk w base D Rs d) (h4 : Rs.length ≤ 1000) (hR : Rs[i]? = some R) (ha : a.ok) (hg : (zE R).ok) (hf : R.free ≤ 32) :
  Calls Tryz.prog 91 #[.pointer (some ⟨D, 0, none⟩), adv a, .int .i64 i] w (BelowPost w (Giv.val ⟨netL a R.free, (zE R).text, true⟩)) := by
 obtain ⟨sv, hv, la, hD, hset, hrow, hl⟩ := h.rows
 obtain ⟨av, cv, rfl, hav⟩ := yK hset
 have hil := (List.getElem?_eq_some_iff.1 hR).1
 obtain ⟨g, rfl⟩ := hav (by omega)
 have cT : w.cell? ⟨D, 0, none⟩ = some (.slice (some ⟨g, 0, none⟩) Rs.length cv) := cell_of_row w D 0 _ _ _ hD
 have lT := h.lt
 have hc : ∀ c, c < 9 → w.cell? ⟨g, i * 9 + c, none⟩ = (spanL R)[c]? := fun c hc => (hset.cellAt (i * 9 + c) (by omega)).trans (yZ _ _ _ _ hR hc)
 have q0 : w.cell? ⟨g, i * 9, none⟩ = some (.bool R.a.six) := hc 0 (by decide)
 have q1 : w.cell? ⟨g, i * 9 + 1, none⟩ = some (.int .u32 R.a.n) := hc 1 (by decide)
 have q2 : w.cell? ⟨g, i * 9 + 2, none⟩ = some (.int .i64 R.free) := hc 2 (by decide)
 have q3 : w.cell? ⟨g, i * 9 + 3, none⟩ = some (.bool (zB R).six) := hc 3 (by decide)
 have q4 : w.cell? ⟨g, i * 9 + 4, none⟩ = some (.int .u32 (zB R).n) := hc 4 (by decide)
 have q5 : w.cell? ⟨g, i * 9 + 5, none⟩ = some (.bool (zC R).six) := hc 5 (by decide)
 have q6 : w.cell? ⟨g, i * 9 + 6, none⟩ = some (.int .u32 (zC R).n) := hc 6 (by decide)
 have q7 : w.cell? ⟨g, i * 9 + 7, none⟩ = some (.bool (zE R).six) := hc 7 (by decide)
 have q8 : w.cell? ⟨g, i * 9 + 8, none⟩ = some (.int .u32 (zE R).n) := hc 8 (by decide)
 have gz : g < w.heap.size := World.block_lt_of_cell? w _ q0
 have tk : decide ((i : Int) < Rs.length) = true := decide_eq_true (by omega)
 have p0 : (0 : Int) ≤ (i : Int) := by omega
 obtain ⟨n, hn⟩ : ∃ n, n = 8 * a.width - R.free := ⟨_, rfl⟩
 have hn128 : n ≤ 128 := by rw [hn]; unfold Ad.width; split <;> omega
 have HT := zh (fun (W : World) => (text_any a W (by unfold Ad.ok at ha; split at ha <;> omega)).mono (fun e w' h => zX h))
 have HG := zh (fun (W : World) => (text_any (zE R) W (by unfold Ad.ok at hg; split at hg <;> omega)).mono (fun e w' h => zX h))
 have HN := zh (fun (W : World) => (decimal_any n W (by omega)).mono (fun e w' h => zX h))
 have hz1 := zY ha
 have hz2 := decL_length 2 n (by omega)
 have HNE := zh hn
 unfold adv at HT HG ⊢
 obtain ⟨tx, htx⟩ : ∃ tx : ByteArray, tx = ⟨a.text.toArray⟩ := ⟨_, rfl⟩
 obtain ⟨dx, hdx⟩ : ∃ dx : ByteArray, dx = ⟨(decL n).toArray⟩ := ⟨_, rfl⟩
 have l1 : tx.size ≤ 15 := by rw [htx]; show a.text.toArray.size ≤ 15; simpa using hz1
 have l2 : dx.size ≤ 3 := by rw [hdx]; show (decL n).toArray.size ≤ 3; simpa using hz2
 have n1 : ¬ 9223372036854775807 < tx.size + 1 := by omega
 have n2 : ¬ 9223372036854775807 < tx.size + 1 + dx.size := by omega
 have HSUM := zh (show tx ++ ⟨#[47]⟩ ++ dx = ⟨(netL a R.free).toArray⟩ by rw [htx, hdx, zmZ, hn]; rfl)
 rw [← htx] at HT
 rw [← hdx] at HN
 have hsix : (if a.six then (128 : Int) else 32) - (R.free : Int) = (n : Int) := by rw [hn]; unfold Ad.width; split <;> omega
 obtain ⟨s6, hs6⟩ : ∃ s6, s6 = a.six := ⟨_, rfl⟩
 rw [← hs6] at HT hsix ⊢
 generalize (zE R).text = gt at HG ⊢
 unfold Giv.val
 simp only
 rw [← HSUM.out]
 clear h hD hset hrow hl hav hc hR ha hg hn hz1 hz2 htx hdx hs6 HSUM
 go_enter Tryz.func91, Tryz.ntmps91
 cases s6 with
 | true =>
  simp only [if_true] at hsix
  go_wp2_with fail
  generalize hWQ : (((w.alloc (.cells #[.bool true, .int .u32 a.n] 56)).alloc (.cells #[.string ⟨#[]⟩, .string ⟨#[]⟩, .bool false] 41)).alloc (.cells #[.bool R.a.six, .int .u32 R.a.n, .int .i64 R.free, .bool (zB R).six, .int .u32 (zB R).n, .bool (zC R).six, .int .u32 (zC R).n, .bool (zE R).six, .int .u32 (zE R).n] 63)) = WQ
  have hr0 : WQ.heap[w.heap.size]? = some (.cells #[.bool true, .int .u32 a.n] 56 (0, 0)) := by
   rw [← hWQ]
   exact (heap_alloc_old _ _ (by simp; omega)).trans ((heap_alloc_old _ _ (by simp)).trans (heap_alloc_new w _))
  have hr1 : WQ.heap[w.heap.size + 1]? = some (.cells #[.string ⟨#[]⟩, .string ⟨#[]⟩, .bool false] 41 (0, 0)) := by
   rw [← hWQ]
   refine (heap_alloc_old _ _ (by simp)).trans ?_
   have := heap_alloc_new (w.alloc (.cells #[.bool true, .int .u32 a.n] 56)) (.cells #[.string ⟨#[]⟩, .string ⟨#[]⟩, .bool false] 41)
   rw [World.size_alloc] at this
   exact this
  have hr2 : WQ.heap[w.heap.size + 1 + 1]? = some (.cells #[.bool R.a.six, .int .u32 R.a.n, .int .i64 R.free, .bool (zB R).six, .int .u32 (zB R).n, .bool (zC R).six, .int .u32 (zC R).n, .bool (zE R).six, .int .u32 (zE R).n] 63 (0, 0)) := by
   rw [← hWQ]
   have := heap_alloc_new ((w.alloc (.cells #[.bool true, .int .u32 a.n] 56)).alloc (.cells #[.string ⟨#[]⟩, .string ⟨#[]⟩, .bool false] 41)) (.cells #[.bool R.a.six, .int .u32 R.a.n, .int .i64 R.free, .bool (zB R).six, .int .u32 (zB R).n, .bool (zC R).six, .int .u32 (zC R).n, .bool (zE R).six, .int .u32 (zE R).n] 63)
   rw [World.size_alloc, World.size_alloc] at this
   exact this
  have HBQ := zh (show Below w.heap.size w WQ from by
   rw [← hWQ]
   exact (((Below.refl _ _).alloc (Nat.le_refl _) _).alloc (by simp) _).alloc (by simp; omega) _)
  clear hWQ q0 q1 q2 q3 q4 q5 q6 q7 q8 cT
  obtain ⟨B0, hB0⟩ : ∃ B0, B0 = w.heap.size := ⟨_, rfl⟩
  rw [← hB0] at hr0 hr1 hr2 ⊢
  have HB0 := zh hB0
  clear hB0
  have c0 := zG (cell_of_row _ _ 0 _ _ _ hr0)
  have c1 := zG (cell_of_row _ _ 1 _ _ _ hr0)
  have e2 := zG (cell_of_row _ _ 2 _ _ _ hr2)
  have e7 := zG (cell_of_row _ _ 7 _ _ _ hr2)
  have e8 := zG (cell_of_row _ _ 8 _ _ _ hr2)
  have HROW := zh (fun x => zaD hr1 x)
  have HTX := zh (fun x : Kin WQ => zV (fun _ _ h => h) (HT.out x.on))
  have HGX := zh (fun x : Kin WQ => zV (fun _ _ h => h) (HG.out x.on))
  have HNX := zh (fun x : Kin WQ => zV (fun _ _ h => h) (HN.out x.on))
  clear hr0 hr1 hr2 HT HG HN
  refine yW 13 (by kernel_rfl) (by kernel_rfl) ?_
  simp only [List.take_succ_cons, List.take_zero]
  repeat (go_big_quiet_step (first
   | (go_at_call 27; first | with_reducible exact HTX.out _ | with_reducible exact HGX.out _)
   | (go_at_call 49; with_reducible exact HNX.out _)))
  refine wpQuiet_nil ?_
  intro _ hw'
  obtain ⟨x, rfl⟩ := hw'
  simp only [List.drop_succ_cons, List.drop_zero]
  have hrow := HROW.out x
  have HBX := zh (below_tr HBQ.out x.ok)
  clear c0 c1 e2 e7 e8 HROW HTX HGX HNX
  generalize x.on = wx at hrow HBX ⊢
  have r0 := cell_of_row wx _ 0 _ _ _ hrow
  have r1 := cell_of_row wx _ 1 _ _ _ hrow
  have r2 := cell_of_row wx _ 2 _ _ _ hrow
  have z0 := frozen_of_row wx _ 0 _ _ hrow
  have z1 := frozen_of_row wx _ 1 _ _ hrow
  have z2 := frozen_of_row wx _ 2 _ _ hrow
  clear hrow
  go_wp2_with fail
  refine bodyPost_ret (v := .agg #[.string (tx ++ ⟨#[47]⟩ ++ dx), .string ⟨gt.toArray⟩, .bool true]) (by simp [results, Tryz.results91, go_sem, r0, r1, r2]) rfl ⟨rfl, ?_⟩
  have hge : w.heap.size ≤ B0 + 1 := by rw [HB0.out]; omega
  exact ((HBX.out.setCell (by exact hge) _).setCell (by exact hge) _).setCell (by exact hge) _
 | false =>
  simp only [Bool.false_eq_true, if_false] at hsix
  go_wp2_with fail
  generalize hWQ : (((w.alloc (.cells #[.bool false, .int .u32 a.n] 56)).alloc (.cells #[.string ⟨#[]⟩, .string ⟨#[]⟩, .bool false] 41)).alloc (.cells #[.bool R.a.six, .int .u32 R.a.n, .int .i64 R.free, .bool (zB R).six, .int .u32 (zB R).n, .bool (zC R).six, .int .u32 (zC R).n, .bool (zE R).six, .int .u32 (zE R).n] 63)) = WQ
  have hr0 : WQ.heap[w.heap.size]? = some (.cells #[.bool false, .int .u32 a.n] 56 (0, 0)) := by
   rw [← hWQ]
   exact (heap_alloc_old _ _ (by simp; omega)).trans ((heap_alloc_old _ _ (by simp)).trans (heap_alloc_new w _))
  have hr1 : WQ.heap[w.heap.size + 1]? = some (.cells #[.string ⟨#[]⟩, .string ⟨#[]⟩, .bool false] 41 (0, 0)) := by
   rw [← hWQ]
   refine (heap_alloc_old _ _ (by simp)).trans ?_
   have := heap_alloc_new (w.alloc (.cells #[.bool false, .int .u32 a.n] 56)) (.cells #[.string ⟨#[]⟩, .string ⟨#[]⟩, .bool false] 41)
   rw [World.size_alloc] at this
   exact this
  have hr2 : WQ.heap[w.heap.size + 1 + 1]? = some (.cells #[.bool R.a.six, .int .u32 R.a.n, .int .i64 R.free, .bool (zB R).six, .int .u32 (zB R).n, .bool (zC R).six, .int .u32 (zC R).n, .bool (zE R).six, .int .u32 (zE R).n] 63 (0, 0)) := by
   rw [← hWQ]
   have := heap_alloc_new ((w.alloc (.cells #[.bool false, .int .u32 a.n] 56)).alloc (.cells #[.string ⟨#[]⟩, .string ⟨#[]⟩, .bool false] 41)) (.cells #[.bool R.a.six, .int .u32 R.a.n, .int .i64 R.free, .bool (zB R).six, .int .u32 (zB R).n, .bool (zC R).six, .int .u32 (zC R).n, .bool (zE R).six, .int .u32 (zE R).n] 63)
   rw [World.size_alloc, World.size_alloc] at this
   exact this
  have HBQ := zh (show Below w.heap.size w WQ from by
   rw [← hWQ]
   exact (((Below.refl _ _).alloc (Nat.le_refl _) _).alloc (by simp) _).alloc (by simp; omega) _)
  clear hWQ q0 q1 q2 q3 q4 q5 q6 q7 q8 cT
  obtain ⟨B0, hB0⟩ : ∃ B0, B0 = w.heap.size := ⟨_, rfl⟩
  rw [← hB0] at hr0 hr1 hr2 ⊢
  have HB0 := zh hB0
  clear hB0
  have c0 := zG (cell_of_row _ _ 0 _ _ _ hr0)
  have c1 := zG (cell_of_row _ _ 1 _ _ _ hr0)
  have e2 := zG (cell_of_row _ _ 2 _ _ _ hr2)
  have e7 := zG (cell_of_row _ _ 7 _ _ _ hr2)
  have e8 := zG (cell_of_row _ _ 8 _ _ _ hr2)
  have HROW := zh (fun x => zaD hr1 x)
  have HTX := zh (fun x : Kin WQ => zV (fun _ _ h => h) (HT.out x.on))
  have HGX := zh (fun x : Kin WQ => zV (fun _ _ h => h) (HG.out x.on))
  have HNX := zh (fun x : Kin WQ => zV (fun _ _ h => h) (HN.out x.on))
  clear hr0 hr1 hr2 HT HG HN
  refine yW 13 (by kernel_rfl) (by kernel_rfl) ?_
  simp only [List.take_succ_cons, List.take_zero]
  repeat (go_big_quiet_step (first
   | (go_at_call 27; first | with_reducible exact HTX.out _ | with_reducible exact HGX.out _)
   | (go_at_call 49; with_reducible exact HNX.out _)))
  refine wpQuiet_nil ?_
  intro _ hw'
  obtain ⟨x, rfl⟩ := hw'
  simp only [List.drop_succ_cons, List.drop_zero]
  have hrow := HROW.out x
  have HBX := zh (below_tr HBQ.out x.ok)
  clear c0 c1 e2 e7 e8 HROW HTX HGX HNX
  generalize x.on = wx at hrow HBX ⊢
  have r0 := cell_of_row wx _ 0 _ _ _ hrow
  have r1 := cell_of_row wx _ 1 _ _ _ hrow
  have r2 := cell_of_row wx _ 2 _ _ _ hrow
  have z0 := frozen_of_row wx _ 0 _ _ hrow
  have z1 := frozen_of_row wx _ 1 _ _ hrow
  have z2 := frozen_of_row wx _ 2 _ _ hrow
  clear hrow
  go_wp2_with fail
  refine bodyPost_ret (v := .agg #[.string (tx ++ ⟨#[47]⟩ ++ dx), .string ⟨gt.toArray⟩, .bool true]) (by simp [results, Tryz.results91, go_sem, r0, r1, r2]) rfl ⟨rfl, ?_⟩
  have hge : w.heap.size ≤ B0 + 1 := by rw [HB0.out]; omega
  exact ((HBX.out.setCell (by exact hge) _).setCell (by exact hge) _).setCell (by exact hge) _
end Go.Proofs.YtnehofekgnbelaaGreatDoor

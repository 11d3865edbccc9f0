/-
  Texts put together: Strs, Step
-/
import Derived.Test.YtnehofekgnbelaaGreatDoorY21
import Derived.Lib.Join
import Derived.Test.YtnehofekgnbelaaGreatDoorY40
import Derived.Test.YtnehofekgnbelaaGreatDoorY41
import Derived.Test.YtnehofekgnbelaaGreatDoorY26
import Derived.Test.YtnehofekgnbelaaGreatDoorY32
import Derived.Test.YtnehofekgnbelaaGreatDoorY25
import Derived.Test.YtnehofekgnbelaaGreatDoorY31
import Derived.Test.YtnehofekgnbelaaGreatDoorY36
import Derived.Test.YtnehofekgnbelaaGreatDoorY35
import Derived.Test.YtnehofekgnbelaaGreatDoorM4
namespace Go.Proofs.YtnehofekgnbelaaGreatDoor
open Go.RowKit
set_option linter.unusedVariables false
set_option maxRecDepth 100000
set_option maxHeartbeats 1000000
def isStr (u : Value) : Prop := ∃ s, u = .string s
theorem zcH (x : UInt8) : ¬ isStr (u8v x) := by rintro ⟨_, h⟩; simp [u8v] at h
theorem zeU : (Tryz.prog.info? 9).map (fun i => (i.zero, i.size, i.bytes)) = some (some (.string ⟨#[]⟩), 1, 16) := by kernel_rfl
theorem zbC (k : Nat) : ∀ u ∈ (Builtin.zeroCells (Value.string ⟨#[]⟩).cells k).toList, isStr u := by
 intro u hu
 unfold Builtin.zeroCells at hu
 simp only [Array.toList_map, List.mem_map] at hu
 obtain ⟨i, _, rfl⟩ := hu
 have hlt : i % 1 < 1 := Nat.mod_lt _ (by decide)
 show isStr (#[Value.string ⟨#[]⟩][i % 1]!)
 obtain h : i % 1 = 0 := by omega
 rw [h]
 exact ⟨_, rfl⟩
def SRow (w : World) (base : Nat) (v : Value) (ss : List ByteArray) : Prop := RowP w base 9 1 isStr v ss.length (ss.map Value.string)
theorem SRow.nil (w : World) (base : Nat) : SRow w base (.slice none 0 0) [] := RowP.nil _ _ _ _ _
theorem SRow.on {w w' : World} {base : Nat} {v : Value} {ss : List ByteArray} (h : SRow w base v ss) (hb : Below w.heap.size w w') : SRow w' base v ss := RowP.on h hb
theorem SRow.form {w : World} {base : Nat} {v : Value} {ss : List ByteArray} (h : SRow w base v ss) : ∃ ao c, v = .slice ao ss.length c ∧ ss.length ≤ c ∧ c ≤ 9223372036854775807 := by
 obtain ⟨ao, c, hv, h1, h2, _⟩ := RowP.form h
 exact ⟨ao, c, hv, h1, by unfold maxLen at h2; omega⟩
theorem SRow.next {w w' : World} {base g c : Nat} {v : Value} {ss : List ByteArray} {s : ByteArray} (hr : SRow w base v ss) (ho : OwnP w' base 9 1 isStr g (ss.length + 1) c (ss.map Value.string ++ [.string s])) (hg : w.grownBy w' v.ownBlock) :
  SRow w' base (.slice (some ⟨g, 0, none⟩) (ss.length + 1) c) (ss ++ [s]) ∧ Fr [9] base w w' :=
 ⟨.inr ⟨g, c, by simp, by simpa using ho⟩, RowP.fr_grown hr zcH (by simp) hg⟩
theorem SRow.cells {w : World} {base : Nat} {v : Value} {ss : List ByteArray} (h : SRow w base v ss) (hne : 0 < ss.length) : ∃ g c, v = .slice (some ⟨g, 0, none⟩) ss.length c ∧ base ≤ g ∧ g < w.heap.size ∧ ss.length ≤ c ∧ OwnP w base 9 1 isStr g ss.length c (ss.map Value.string) ∧ ∀ (j : Nat) (x : ByteArray), ss[j]? = some x → w.cell? ⟨g, 0 + j, none⟩ = some (.string x) := by
 rcases h with ⟨_, h0, _⟩ | ⟨g, c, hv, ho⟩
 ·omega
 ·refine ⟨g, c, hv, ho.2.1, ho.lt, ho.2.2.1, ho, fun j x hx => ?_⟩
  have hl := (List.getElem?_eq_some_iff.1 hx).1
  rw [Nat.zero_add, ho.cell j (by omega), List.getElem?_map, hx]
  rfl
theorem zlT (l : List (List UInt8)) (m : Nat) (h : ∀ x ∈ l, x.length ≤ m) : (Lib.join l [44]).length ≤ (m + 1) * l.length := by
 cases l with
 | nil => simp [Lib.join_nil]
 | cons x r =>
  rw [Lib.join_cons, List.length_append, Lib.joinTail_length]
  have hr : ∀ r : List (List UInt8), (∀ x ∈ r, x.length ≤ m) → Lib.lens r ≤ m * r.length := by
   intro r
   induction r with
   | nil => intro _; simp [Lib.lens]
   | cons y r ih =>
    intro hy
    have h1 := ih (fun z hz => hy z (by simp [hz]))
    have h2 := hy y (by simp)
    simp only [Lib.lens, List.map_cons, List.sum_cons, List.length_cons] at h1 ⊢
    rw [Nat.mul_add]
    omega
  have h1 := hr r (fun z hz => h z (by simp [hz]))
  have h2 := h x (by simp)
  have h3 : (m + 1) * (r.length + 1) = m * r.length + r.length + m + 1 := by rw [Nat.add_mul, Nat.mul_add]; omega
  rw [List.length_singleton, Nat.one_mul, List.length_cons, h3]
  omega
def OpIn.val (o : OpIn) : Value := .agg #[.int .i64 o.kind, .string o.id, .string o.at_, .string o.asked]
def xX (base T : Nat) (d' : Desk) (g : Giv) (w : World) (e : Ending) (w' : World) : Prop := e = .returned g.val ∧ StoD w' base T d' ∧ Fr tG base w w'
theorem zbW {w : World} {k base : Nat} {s0 s1 t0 t1 : ByteArray} {x y : Bool} (hr : w.heap[k]? = some (.cells #[.string s0, .string s1, .bool x] 41 (0, 0))) (hB : base ≤ k) :
  (((w.setCell ⟨k, 0, none⟩ (.string t0)).setCell ⟨k, 1, none⟩ (.string t1)).setCell ⟨k, 2, none⟩ (.bool y)).heap[k]? = some (.cells #[.string t0, .string t1, .bool y] 41 (0, 0)) ∧
    Fr [41] base w (((w.setCell ⟨k, 0, none⟩ (.string t0)).setCell ⟨k, 1, none⟩ (.string t1)).setCell ⟨k, 2, none⟩ (.bool y)) := by
 have s1 := heap_setCell_same w k 0 _ _ (.string t0) hr
 have s2 := heap_setCell_same _ k 1 _ _ (.string t1) s1
 have s3 := heap_setCell_same _ k 2 _ _ (.bool y) s2
 exact ⟨s3, ((Fr.set hr (by simp) hB (fun x => by rw [cell_of_row _ _ 0 _ _ _ hr]; simp [u8v])).trans (Fr.set s1 (by simp) hB (fun x => by rw [cell_of_row _ _ 1 _ _ _ s1]; simp [u8v]))).trans (Fr.set s2 (by simp) hB (fun x => by rw [cell_of_row _ _ 2 _ _ _ s2]; simp [u8v]))⟩
theorem xA {w w1 : World} {base T k : Nat} {d' : Desk} {s0 s1 : ByteArray} {x : Bool} {g : Giv} (hf : Fr tG base w w1) (hs : StoD w1 base T d') (hr : w1.heap[k]? = some (.cells #[.string s0, .string s1, .bool x] 41 (0, 0))) (hB : base ≤ k) (hk : w.heap.size ≤ k) :
  xX base T d' g w (.returned g.val) (((w1.setCell ⟨k, 0, none⟩ (.string ⟨g.addr.toArray⟩)).setCell ⟨k, 1, none⟩ (.string ⟨g.gate.toArray⟩)).setCell ⟨k, 2, none⟩ (.bool g.ok)) := by
 have h := zbW (base := base) (t0 := ⟨g.addr.toArray⟩) (t1 := ⟨g.gate.toArray⟩) (y := g.ok) hr hB
 refine ⟨rfl, hs.fr h.2 (by decide) (by decide), hf.then ?_⟩
 exact (((Below.refl _ _).setCell (by exact hk) _).setCell (by exact hk) _).setCell (by exact hk) _
theorem zeV {w : World} (o : OpIn) : ∀ W : World, W = (w.alloc (.cells #[.int .i64 o.kind, .string o.id, .string o.at_, .string o.asked] 45)).alloc (.cells #[.string ⟨#[]⟩, .string ⟨#[]⟩, .bool false] 41) →
  W.heap[w.heap.size]? = some (.cells #[.int .i64 o.kind, .string o.id, .string o.at_, .string o.asked] 45 (0, 0)) ∧ W.heap[w.heap.size + 1]? = some (.cells #[.string ⟨#[]⟩, .string ⟨#[]⟩, .bool false] 41 (0, 0)) ∧ Below w.heap.size w W := by
 rintro W rfl
 have h1 := heap_alloc_new (w.alloc (.cells #[.int .i64 o.kind, .string o.id, .string o.at_, .string o.asked] 45)) (.cells #[.string ⟨#[]⟩, .string ⟨#[]⟩, .bool false] 41)
 rw [World.size_alloc] at h1
 exact ⟨(heap_alloc_old _ _ (by simp)).trans (heap_alloc_new w _), h1, ((Below.refl _ _).alloc (Nat.le_refl _) _).alloc (by simp) _⟩
theorem zdU (base T : Nat) (d : Desk) (A SV : Nat) (rid : ByteArray) (id at_ asked : ByteArray) (w : World) (hsto : StoD w base T d) (hA : zS w A SV T rid) (hB : base ≤ w.heap.size) :
  Calls Tryz.prog 45 #[.pointer (some ⟨A, 0, none⟩), .pointer (some ⟨T, 0, none⟩), .agg #[.int .i64 1, .string id, .string at_, .string asked]] w (xX base T ⟨d.held.filter fun e => !whoB e.id e.at_ id at_, d.last⟩ ⟨[], [], true⟩ w) := by
 obtain ⟨i1, i2, hbA⟩ := zeV (w := w) ⟨1, id, at_, asked, none⟩ _ rfl
 have HBA := zh hbA
 have HREL := zh (zdN base T d A SV rid id at_ _ (hsto.on hbA) (hA.fr (ts := []) (base := 0) (Fr.of_below hbA) (by simp)))
 have HI2 := zh i2
 clear hsto hA i1 i2 hbA
 go_enter Tryz.func45, Tryz.ntmps45
 go_wp2_with fail
 refine HREL.out.mono ?_
 rintro e w1 ⟨rfl, hs1, hf1⟩
 have hr := hf1.rows _ _ _ _ HI2.out (by decide)
 have HR := zh hr
 have HS := zh hs1
 have HF := zh ((Fr.of_below HBA.out).trans hf1)
 have r0 := cell_of_row w1 _ 0 _ _ _ hr
 have r1 := cell_of_row w1 _ 1 _ _ _ hr
 have r2 := cell_of_row w1 _ 2 _ _ _ hr
 have z0 := frozen_of_row w1 _ 0 _ _ hr
 have z1 := frozen_of_row w1 _ 1 _ _ hr
 have z2 := frozen_of_row w1 _ 2 _ _ hr
 clear hr hs1 hf1 HREL
 go_wp2_with fail
 refine bodyPost_ret (v := Giv.val ⟨[], [], true⟩) (by simp [results, Tryz.results45, go_sem, r0, r1, r2, Giv.val]) rfl ?_
 exact xA (g := ⟨[], [], true⟩) HF.out HS.out HR.out (by omega) (by omega)
theorem zkK (w0 : World) (T : Nat) (d : Desk) (SV g cap : Nat) (Rs : List RIn) (A : Nat) (rid id at_ asked : ByteArray) (rd : Option Ad → List (Nat × Ad)) (ad : Option Ad) (w : World) (hb0 : Below w0.heap.size w0 w) (ht : Tab w0) (hsto : StoD w w0.heap.size T d) (hset : SetH w0.heap.size w SV g cap Rs) (hA : zS w A SV T rid) (hrd : Rd Rs rd) (ho : OpOK ⟨0, id, at_, asked, ad⟩) (hne : 0 < Rs.length) (hn : d.held.length ≤ 1000) :
  Calls Tryz.prog 45 #[.pointer (some ⟨A, 0, none⟩), .pointer (some ⟨T, 0, none⟩), .agg #[.int .i64 0, .string id, .string at_, .string asked]] w (xX w0.heap.size T (d.got id at_ (getR Rs rd d id at_ ad)) (givR Rs (getR Rs rd d id at_ ad)) w) := by
 obtain ⟨i1, i2, hbA⟩ := zeV (w := w) ⟨0, id, at_, asked, ad⟩ _ rfl
 have HI2 := zh i2
 have HBA := zh hbA
 have HB0 := zh hb0
 have HTAB := zh ht
 have HSET := zh hset
 have hnil := fun w a n c => Lib.run_eql_slice_nil (P := Tryz.prog) w 67 5 a n c 0 0 Tryz.underlying67
 cases ad with
 | none =>
  obtain rfl : asked = ⟨#[]⟩ := ho.no rfl
  have HG := zh (ziA w0.heap.size T d SV g cap Rs A rid id at_ rd (.slice none 0 0) none _ (hsto.on hbA) (hset.on hbA) (hA.fr (ts := []) (base := 0) (Fr.of_below hbA) (by simp)) hrd rfl (fun a h => by cases h) hne hn (Nat.le_trans hb0.size hbA.size))
  clear hb0 ht hsto hset hA ho i1 i2 hbA
  go_enter Tryz.func45, Tryz.ntmps45
  go_wp2_with fail
  refine HG.out.mono ?_
  rintro e w1 ⟨hf1, hs1, hres⟩
  have hr := hf1.rows _ _ _ _ HI2.out (by decide)
  have HR := zh hr
  have HS := zh hs1
  have HBW := zh (hf1.below (below_tr HB0.out HBA.out) (Nat.le_trans HB0.out.size HBA.out.size))
  have HF := zh ((Fr.of_below HBA.out).trans hf1)
  clear hr hs1 hf1 HG HI2
  generalize hrr : getR _ _ _ _ _ _ = r at *
  clear hrr
  cases r with
  | none =>
   obtain ⟨b, rfl⟩ := hres
   have r0 := cell_of_row w1 _ 0 _ _ _ HR.out
   have r1 := cell_of_row w1 _ 1 _ _ _ HR.out
   have r2 := cell_of_row w1 _ 2 _ _ _ HR.out
   have z0 := frozen_of_row w1 _ 0 _ _ HR.out
   have z1 := frozen_of_row w1 _ 1 _ _ HR.out
   have z2 := frozen_of_row w1 _ 2 _ _ HR.out
   go_wp2_with fail
   refine bodyPost_ret (v := Giv.no.val) (by simp [results, Tryz.results45, go_sem, r0, r1, r2, Giv.val, Giv.no]) rfl ?_
   exact xA (g := Giv.no) HF.out HS.out HR.out (by have := HB0.out.size; omega) (by omega)
  | some p =>
   obtain ⟨i, a⟩ := p
   obtain ⟨C, va, vm, v4, R, hR, hin, rfl, hC, ha, hm, hg4⟩ := hres
   have hgood := HSET.out.good R (List.mem_of_getElem? hR)
   have oka : a.ok := HS.out.oks ⟨a, id, at_⟩ (by simp [Desk.got])
   have hroom : R.free ≤ a.room := by
    have h1 := hgood.k.room
    unfold Ad.room at h1 ⊢
    rw [zeR hin]
    exact h1
   have HTB := zh (HTAB.out.on HBW.out)
   have HGV := zh (show givR Rs (some (i, a)) = ⟨netL a R.free, (zE R).text, true⟩ by unfold givR; simp only [hR])
   have HN := zh (fun (x : Kin w1) (g0 : x.on.cell? ⟨C, 0, none⟩ = some va) (g1 : x.on.cell? ⟨C, 1, none⟩ = some vm) => zV (fun _ _ h => h) ((xK C _ _ a R.free x.on g0 g1 (ha.keep x.ok) (IPAt.keep hm x.ok) oka hroom (HTB.out.on x.ok)).mono (fun e w' h => zX h)))
   have HS4 := zh (fun (x : Kin w1) => zV (fun _ _ h => h) ((ipString_any _ _ x.on (.inr (BriefAt.keep hg4 x.ok)) (xO hgood.k hgood.ok)).mono (fun e w' h => zX h)))
   generalize netL a R.free = tn at HGV HN
   generalize (zE R).text = tg at HGV HS4
   have c1 := zG (cell_of_row w1 C 0 _ _ _ hC)
   have c2 := zG (cell_of_row w1 C 1 _ _ _ hC)
   have c3 := zG (cell_of_row w1 C 2 _ _ _ hC)
   have HNX := zh (fun x : Kin w1 => HN.out x (c1 x) (c2 x))
   have HROW := zh (fun x : Kin w1 => zaD HR.out x)
   obtain ⟨bg, ng, cg, rfl⟩ := zK hg4.1
   clear hgood oka hroom hR hin hC ha hm hg4 c1 c2 HN
   go_wp2_with fail
   refine yW 10 (by kernel_rfl) (by kernel_rfl) ?_
   simp only [List.take_succ_cons, List.take_zero]
   repeat (go_big_quiet_step (first
    | (go_at_call 29; exact HNX.out _)
    | (go_at_call 30; exact HS4.out _)))
   refine wpQuiet_nil ?_
   intro _ hw'
   obtain ⟨x, rfl⟩ := hw'
   simp only [List.drop_succ_cons, List.drop_zero]
   have hrow := HROW.out x
   have hsx := HS.out.on x.ok
   have hfx := HF.out.trans (Fr.of_below x.ok)
   clear HR HS HF HROW HNX HS4 c3 HTB HBW
   generalize x.on = w1 at hrow hsx hfx ⊢
   have HR := zh hrow
   have HS := zh hsx
   have HF := zh hfx
   clear hrow hsx hfx
   have r0 := cell_of_row w1 _ 0 _ _ _ HR.out
   have r1 := cell_of_row w1 _ 1 _ _ _ HR.out
   have r2 := cell_of_row w1 _ 2 _ _ _ HR.out
   have z0 := frozen_of_row w1 _ 0 _ _ HR.out
   have z1 := frozen_of_row w1 _ 1 _ _ HR.out
   have z2 := frozen_of_row w1 _ 2 _ _ HR.out
   go_wp2_with fail
   rw [HGV.out]
   refine bodyPost_ret (v := Giv.val ⟨tn, tg, true⟩) (by simp [results, Tryz.results45, go_sem, r0, r1, r2, Giv.val]) rfl ?_
   exact xA (g := ⟨tn, tg, true⟩) HF.out HS.out HR.out (by have := HB0.out.size; omega) (by omega)
 | some aa =>
  obtain ⟨y1, y2, y3, y4⟩ := ho.yes aa rfl
  have HAD := zh (fun W => addressOf_any asked aa W y1 (Nat.le_trans y3 (by decide)))
  have HOKA := zh y2
  have HG0 := zh (fun (v : Value) (W : World) (hb : Below w.heap.size w W) (hv : LongAt W v aa) => ziA w0.heap.size T d SV g cap Rs A rid id at_ rd v (some aa) W (hsto.on hb) (hset.on hb) (hA.fr (ts := []) (base := 0) (Fr.of_below hb) (by simp)) hrd (.inl hv) (fun a h => by cases h; exact y2) hne hn (Nat.le_trans hb0.size hb.size))
  have lw : w.heap.size < (((w.alloc (.cells #[.int .i64 0, .string id, .string at_, .string asked] 45)).alloc (.cells #[.string ⟨#[]⟩, .string ⟨#[]⟩, .bool false] 41))).heap.size := by simp; omega
  have HI1 := zh i1
  clear hb0 ht hsto hset hA ho i1 i2 hbA y1 y2 y3
  go_enter Tryz.func45, Tryz.ntmps45
  go_wp2_with fail
  refine (HAD.out _).mono ?_
  rintro e wa ⟨v, rfl, hv, hba⟩
  have HG := zh (HG0.out v wa (below_tr HBA.out hba) hv)
  have hI1 := row_on hba HI1.out
  have hI2 := row_on hba HI2.out
  have HBA' := zh (below_tr HBA.out hba)
  obtain ⟨bv, ov, cv, rfl, _⟩ := IPAt.out hv
  have o1 := cell_of_row wa _ 1 _ _ _ hI1
  have o2 := cell_of_row wa _ 2 _ _ _ hI1
  have o3 := cell_of_row wa _ 3 _ _ _ hI1
  clear HI2 HBA HG0 HAD hv hba
  have HI2 := zh hI2
  have HBA := HBA'
  clear hI2 hI1 HBA'
  go_wp2_with fail
  refine HG.out.mono ?_
  rintro e w1 ⟨hf1, hs1, hres⟩
  have hr := hf1.rows _ _ _ _ HI2.out (by decide)
  have HR := zh hr
  have HS := zh hs1
  have HBW := zh (hf1.below (below_tr HB0.out HBA.out) (Nat.le_trans HB0.out.size HBA.out.size))
  have HF := zh ((Fr.of_below HBA.out).trans hf1)
  clear hr hs1 hf1 HG HI2
  generalize hrr : getR _ _ _ _ _ _ = r at *
  clear hrr
  cases r with
  | none =>
   obtain ⟨b, rfl⟩ := hres
   have r0 := cell_of_row w1 _ 0 _ _ _ HR.out
   have r1 := cell_of_row w1 _ 1 _ _ _ HR.out
   have r2 := cell_of_row w1 _ 2 _ _ _ HR.out
   have z0 := frozen_of_row w1 _ 0 _ _ HR.out
   have z1 := frozen_of_row w1 _ 1 _ _ HR.out
   have z2 := frozen_of_row w1 _ 2 _ _ HR.out
   go_wp2_with fail
   refine bodyPost_ret (v := Giv.no.val) (by simp [results, Tryz.results45, go_sem, r0, r1, r2, Giv.val, Giv.no]) rfl ?_
   exact xA (g := Giv.no) HF.out HS.out HR.out (by have := HB0.out.size; omega) (by omega)
  | some p =>
   obtain ⟨i, a⟩ := p
   obtain ⟨C, va, vm, v4, R, hR, hin, rfl, hC, ha, hm, hg4⟩ := hres
   have hgood := HSET.out.good R (List.mem_of_getElem? hR)
   have oka : a.ok := HS.out.oks ⟨a, id, at_⟩ (by simp [Desk.got])
   have hroom : R.free ≤ a.room := by
    have h1 := hgood.k.room
    unfold Ad.room at h1 ⊢
    rw [zeR hin]
    exact h1
   have HTB := zh (HTAB.out.on HBW.out)
   have HGV := zh (show givR Rs (some (i, a)) = ⟨netL a R.free, (zE R).text, true⟩ by unfold givR; simp only [hR])
   have HN := zh (fun (x : Kin w1) (g0 : x.on.cell? ⟨C, 0, none⟩ = some va) (g1 : x.on.cell? ⟨C, 1, none⟩ = some vm) => zV (fun _ _ h => h) ((xK C _ _ a R.free x.on g0 g1 (ha.keep x.ok) (IPAt.keep hm x.ok) oka hroom (HTB.out.on x.ok)).mono (fun e w' h => zX h)))
   have HS4 := zh (fun (x : Kin w1) => zV (fun _ _ h => h) ((ipString_any _ _ x.on (.inr (BriefAt.keep hg4 x.ok)) (xO hgood.k hgood.ok)).mono (fun e w' h => zX h)))
   generalize netL a R.free = tn at HGV HN
   generalize (zE R).text = tg at HGV HS4
   have c1 := zG (cell_of_row w1 C 0 _ _ _ hC)
   have c2 := zG (cell_of_row w1 C 1 _ _ _ hC)
   have c3 := zG (cell_of_row w1 C 2 _ _ _ hC)
   have HNX := zh (fun x : Kin w1 => HN.out x (c1 x) (c2 x))
   have HROW := zh (fun x : Kin w1 => zaD HR.out x)
   obtain ⟨bg, ng, cg, rfl⟩ := zK hg4.1
   clear hgood oka hroom hR hin hC ha hm hg4 c1 c2 HN
   go_wp2_with fail
   refine yW 10 (by kernel_rfl) (by kernel_rfl) ?_
   simp only [List.take_succ_cons, List.take_zero]
   repeat (go_big_quiet_step (first
    | (go_at_call 29; exact HNX.out _)
    | (go_at_call 30; exact HS4.out _)))
   refine wpQuiet_nil ?_
   intro _ hw'
   obtain ⟨x, rfl⟩ := hw'
   simp only [List.drop_succ_cons, List.drop_zero]
   have hrow := HROW.out x
   have hsx := HS.out.on x.ok
   have hfx := HF.out.trans (Fr.of_below x.ok)
   clear HR HS HF HROW HNX HS4 c3 HTB HBW
   generalize x.on = w1 at hrow hsx hfx ⊢
   have HR := zh hrow
   have HS := zh hsx
   have HF := zh hfx
   clear hrow hsx hfx
   have r0 := cell_of_row w1 _ 0 _ _ _ HR.out
   have r1 := cell_of_row w1 _ 1 _ _ _ HR.out
   have r2 := cell_of_row w1 _ 2 _ _ _ HR.out
   have z0 := frozen_of_row w1 _ 0 _ _ HR.out
   have z1 := frozen_of_row w1 _ 1 _ _ HR.out
   have z2 := frozen_of_row w1 _ 2 _ _ HR.out
   go_wp2_with fail
   rw [HGV.out]
   refine bodyPost_ret (v := Giv.val ⟨tn, tg, true⟩) (by simp [results, Tryz.results45, go_sem, r0, r1, r2, Giv.val]) rfl ?_
   exact xA (g := ⟨tn, tg, true⟩) HF.out HS.out HR.out (by have := HB0.out.size; omega) (by omega)
def txb (a : Ad) : ByteArray := ⟨a.text.toArray⟩
theorem ziC (al : List Ad) : (al.map txb).map (fun x => x.data.toList) = al.map Ad.text := by
 rw [List.map_map]
 exact List.map_congr_left (fun a _ => by simp [txb])
theorem zkL (base T : Nat) (d : Desk) (A : Nat) (id at_ asked : ByteArray) (w : World) (hsto : StoD w base T d) (hn : d.held.length ≤ 1000) (hB : base ≤ w.heap.size) :
  Calls Tryz.prog 45 #[.pointer (some ⟨A, 0, none⟩), .pointer (some ⟨T, 0, none⟩), .agg #[.int .i64 2, .string id, .string at_, .string asked]] w (xX base T d ⟨Lib.join ((mineE d.held id at_).map Ad.text) [44], [], decide (0 < (mineE d.held id at_).length)⟩ w) := by
 obtain ⟨i1, i2, hbA⟩ := zeV (w := w) ⟨2, id, at_, asked, none⟩ _ rfl
 have HI2 := zh i2
 have HBA := zh hbA
 have HSTO := zh hsto
 have HBY := zh (zdO base T d id at_ _ (hsto.on hbA) hn)
 have HOKS := zh (show ∀ x ∈ mineE d.held id at_, x.ok from fun x hx => by
  unfold mineE at hx
  obtain ⟨h, hm, rfl⟩ := List.mem_map.1 hx
  exact hsto.oks h (List.mem_filter.1 hm).1)
 have hal : (mineE d.held id at_).length ≤ 1000 := by
  unfold mineE
  rw [List.length_map]
  exact Nat.le_trans (List.length_filter_le _ _) hn
 obtain ⟨i0, hi', hz⟩ := Option.map_eq_some_iff.1 zeU
 simp only [Prod.mk.injEq] at hz
 obtain ⟨hz0, hz1, hz2⟩ := hz
 have HI0 := zh hi'
 have HZ0 := zh hz0
 have HZ1 := zh hz1
 have HZ2 := zh hz2
 clear hsto i1 i2 hbA hi' hz0 hz1 hz2
 go_enter Tryz.func45, Tryz.ntmps45
 go_wp2_with fail
 refine HBY.out.mono ?_
 rintro e wq ⟨v, rfl, had, hbq⟩
 have HBQ := zh (below_tr HBA.out hbq)
 have HIQ := zh (row_on hbq HI2.out)
 obtain ⟨vs, hrv, hav⟩ := had
 obtain ⟨ao, cap1, rfl, hc1, hc2, hnone, hsome⟩ := hrv.form
 have HLEN := zh (show vs.length = (mineE d.held id at_).length from by have := hrv.len; omega)
 have HNO := zh hnone
 have HSM := zh hsome
 have HAV := zh hav
 unfold maxLen at hc2
 clear hbq hrv hnone hsome hav HBY HI2
 generalize mineE d.held id at_ = al at *
 go_wp2_with fail
 go_loopw [10, 71] (fun v i wr => ∃ k : Nat, i = .int .i64 k ∧ k ≤ al.length ∧ Hid (Below wq.heap.size wq wr ∧ SRow wr wq.heap.size v ((al.take k).map txb))) (fun _ i _ => al.length - (intOf i).toNat)
 case atStart => exact ⟨0, rfl, by omega, zh ⟨Below.refl _ _, SRow.nil _ _⟩⟩
 case round =>
  obtain ⟨k, rfl, hk, hr⟩ := hrel
  have HB := zh hr.out.1
  have HSR := zh hr.out.2
  clear hr
  by_cases hlt : k < al.length
  ·have tk : decide ((k : Int) < al.length) = true := decide_eq_true (by omega)
   obtain ⟨ad, hao⟩ : ∃ ad, ao = some ad := by
    cases ao with
    | none => have := (HNO.out rfl).1; omega
    | some ad => exact ⟨ad, rfl⟩
   obtain ⟨g1, hg, ho⟩ := HSM.out ad hao
   subst hg
   subst hao
   have hx : al[k]? = some al[k] := List.getElem?_eq_getElem hlt
   have hxm : al[k] ∈ al := List.getElem_mem hlt
   have hkv : k < vs.length := by have := HLEN.out; omega
   have hu : vs[k]? = some vs[k] := List.getElem?_eq_getElem hkv
   have hat := HAV.out k _ _ hu hx
   have hcell : wr.cell? ⟨g1, k, none⟩ = some vs[k] := by rw [HB.out.cell ho.lt, ho.cell k (by omega), hu]
   have HTK := zh (show (al.take (k + 1)).map txb = (al.take k).map txb ++ [txb al[k]] by rw [List.take_succ_eq_append_getElem hlt, List.map_append]; rfl)
   have hokx := HOKS.out _ hxm
   have hlk : ((al.take k).map txb).length = k := by rw [List.length_map, List.length_take]; omega
   clear hx hu hxm
   generalize al[k] = x at *
   generalize vs[k] = u at *
   have HS := zh ((ipString_any u x wr (hat.keep HB.out) hokx).mono (fun e w' h => zX h))
   obtain ⟨bu, ou, nu, cu, rfl⟩ := hat.slice
   have HTX := zh (show txb x = ⟨x.text.toArray⟩ from rfl)
   generalize x.text.toArray = tx at HS HTX
   have q1 : (0 : Int) ≤ (k : Int) := by omega
   generalize (al.take k).map txb = ss at *
   obtain ⟨av, kv, rfl, _⟩ := HSR.out.form
   rw [hlk] at HSR
   clear hat ho hokx
   rw [hlk]
   go_wp2_with fail
   refine HS.out.mono ?_
   rintro e w2 ⟨rfl, hb2⟩
   have HB2 := zh (below_tr HB.out hb2)
   have HNEW := zh (show ∀ (j : Nat) (u : Value), ([Value.string ⟨tx⟩] : List Value)[j]? = some u → (w2.alloc (.cells #[.string ⟨tx⟩] 9)).cell? ((⟨w2.heap.size, 0, none⟩ : Addr).add j) = some u from fun j u hu => by
    rw [Addr.add_lit, Nat.zero_add, cell_of_row _ _ j _ _ _ (heap_alloc_new w2 _), ← hu, List.getElem?_toArray])
   have HBN := zh (HB2.out.alloc HB2.out.size (.cells #[.string ⟨tx⟩] 9))
   have HSR2 := zh (show RowP (w2.alloc (.cells #[.string ⟨tx⟩] 9)) wq.heap.size 9 1 isStr (.slice av k kv) k (ss.map Value.string) from by
    have h := (HSR.out.on hb2).on ((Below.refl w2.heap.size w2).alloc (Nat.le_refl _) (.cells #[.string ⟨tx⟩] 9))
    unfold SRow at h
    rw [hlk] at h
    exact h)
   clear hb2 hcell HS HSR
   go_wp2_with (focus (at_builtin; go_must (refine zN _ rfl _ _ 29 rfl wq.heap.size 9 i0 (.string ⟨#[]⟩) 1 16 isStr Tryz.underlying29 HI0.out HZ0.out HZ1.out HZ2.out (by rfl) (by decide) zbC (.slice av k kv) k (ss.map Value.string) rfl HSR2.out ⟨w2.heap.size, 0, none⟩ 1 1 [.string ⟨tx⟩] rfl rfl HNEW.out (fun u hu => by simp only [List.mem_singleton] at hu; subst hu; rfl) (fun u hu => by simp only [List.mem_singleton] at hu; subst hu; exact ⟨_, rfl⟩) (by decide) (by unfold maxLen; omega) (by omega) HBN.out.size ?_)))
   intro g' cap' w3 hown hg hgg
   have HNX := zh (show SRow w3 wq.heap.size (.slice (some ⟨g', 0, none⟩) (k + 1) cap') (ss ++ [⟨tx⟩]) ∧ Fr [9] wq.heap.size (w2.alloc (.cells #[.string ⟨tx⟩] 9)) w3 from by
    have h := SRow.next (s := ⟨tx⟩) (show SRow _ wq.heap.size (.slice av k kv) ss by unfold SRow; rw [hlk]; exact HSR2.out) (by rw [hlk]; exact hown) hg
    rw [hlk] at h
    exact h)
   clear hown hg hgg
   go_wp2_with fail
   go_roundw
   case rel => exact ⟨k + 1, by simp, by omega, zh ⟨HNX.out.2.below HBN.out HBN.out.size, by
    rw [HTK.out, HTX.out]
    exact HNX.out.1⟩⟩
   case measure => simp [intOf]; omega
  ·obtain rfl : k = al.length := by omega
   have tk : decide ((al.length : Int) < al.length) = false := decide_eq_false (by omega)
   have hsr := HSR.out
   rw [List.take_length] at hsr
   have HSR' := zh hsr
   have HBF := zh (below_tr HBQ.out HB.out)
   have HIR := zh (row_on HB.out HIQ.out)
   have HJ := zh (show (Lib.join ((al.map txb).map fun x => x.data.toList) [44]).length ≤ 140737488355328 from by
    rw [ziC]
    have h1 := zlT (al.map Ad.text) 15 (fun x hx => by
     obtain ⟨a, ha, rfl⟩ := List.mem_map.1 hx
     exact zY (HOKS.out a ha))
    rw [List.length_map] at h1
    omega)
   clear HSR
   by_cases h0 : al.length = 0
   ·have hal0 := List.length_eq_zero_iff.1 h0
    subst hal0
    obtain ⟨av, kv, rfl, _⟩ := hsr.form
    clear hsr
    go_wp2_with fail
    refine (Tryz.strings_Join_none av kv _ _).mono ?_
    rintro e w1 ⟨rfl, rfl⟩
    have HR := zh HIR.out
    have r0 := cell_of_row w1 _ 0 _ _ _ HR.out
    have r1 := cell_of_row w1 _ 1 _ _ _ HR.out
    have r2 := cell_of_row w1 _ 2 _ _ _ HR.out
    have z0 := frozen_of_row w1 _ 0 _ _ HR.out
    have z1 := frozen_of_row w1 _ 1 _ _ HR.out
    have z2 := frozen_of_row w1 _ 2 _ _ HR.out
    go_wp2_with fail
    refine bodyPost_ret (v := Giv.val ⟨[], [], false⟩) (by simp [results, Tryz.results45, go_sem, r0, r1, r2, Giv.val]) rfl ?_
    exact xA (g := ⟨[], [], false⟩) (Fr.of_below HBF.out) (HSTO.out.on HBF.out) HR.out (by omega) (by omega)
   ·obtain ⟨g1, c1, rfl, hg1, hg2, hcap, hown, hcs⟩ := hsr.cells (by rw [List.length_map]; omega)
    have HJN := zh (Tryz.strings_Join g1 0 c1 (al.map txb) ⟨#[44]⟩ wr hcs hg2 (by rw [List.length_map]; omega) hcap HJ.out)
    rw [List.length_map] at HJN
    rw [List.length_map]
    have h1 : (0 : Int) < (al.length : Int) := by omega
    have h2 : decide ((0 : Int) < (al.length : Int)) = true := decide_eq_true h1
    clear hsr hcs hown hcap h1
    go_wp2_with fail
    refine HJN.out.mono ?_
    rintro e w1 ⟨rfl, hb1⟩
    have HR := zh (row_on hb1 HIR.out)
    have HBZ := zh (below_tr HBF.out hb1)
    have HTX := zh (show (Lib.join ((al.map txb).map fun x => x.data.toList) (⟨#[44]⟩ : ByteArray).data.toList) = Lib.join (al.map Ad.text) [44] by rw [ziC])
    rw [HTX.out]
    have hpos : 0 < al.length := by omega
    generalize Lib.join (al.map Ad.text) [44] = tj at *
    clear hb1 HJN HJ HTX
    have r0 := cell_of_row w1 _ 0 _ _ _ HR.out
    have r1 := cell_of_row w1 _ 1 _ _ _ HR.out
    have r2 := cell_of_row w1 _ 2 _ _ _ HR.out
    have z0 := frozen_of_row w1 _ 0 _ _ HR.out
    have z1 := frozen_of_row w1 _ 1 _ _ HR.out
    have z2 := frozen_of_row w1 _ 2 _ _ HR.out
    go_wp2_with fail
    refine bodyPost_ret (v := Giv.val ⟨tj, [], true⟩) (by simp [results, Tryz.results45, go_sem, r0, r1, r2, Giv.val]) rfl ?_
    simp only [decide_eq_true hpos]
    exact xA (g := ⟨tj, [], true⟩) (Fr.of_below HBZ.out) (HSTO.out.on HBZ.out) HR.out (by omega) (by omega)
theorem zkM (w0 : World) (T : Nat) (d : Desk) (SV g cap : Nat) (Rs : List RIn) (A : Nat) (rid : ByteArray) (rd : Option Ad → List (Nat × Ad)) (o : OpIn) (w : World) (hb0 : Below w0.heap.size w0 w) (ht : Tab w0) (hsto : StoD w w0.heap.size T d) (hset : SetH w0.heap.size w SV g cap Rs) (hA : zS w A SV T rid) (hrd : Rd Rs rd) (ho : OpOK o) (hne : 0 < Rs.length) (hn : d.held.length ≤ 1000) :
  Calls Tryz.prog 45 #[.pointer (some ⟨A, 0, none⟩), .pointer (some ⟨T, 0, none⟩), o.val] w (xX w0.heap.size T (stepD Rs rd d o).2 (stepD Rs rd d o).1 w) := by
 obtain ⟨kind, id, at_, asked, ad⟩ := o
 have hk : kind ≤ 2 := ho.k
 obtain rfl | rfl | rfl : kind = 0 ∨ kind = 1 ∨ kind = 2 := by omega
 ·exact zkK w0 T d SV g cap Rs A rid id at_ asked rd ad w hb0 ht hsto hset hA hrd ho hne hn
 ·exact zdU w0.heap.size T d A SV rid id at_ asked w hsto hA hb0.size
 ·exact zkL w0.heap.size T d A id at_ asked w hsto hn hb0.size
def Desk.res (d : Desk) (a : Ad) (id at_ : ByteArray) : Desk := if hasA d.ads a then d else d.got id at_ (some (0, a))
def ResD (w : World) (base T : Nat) (d' : Desk) (e : Ending) (w' : World) : Prop := (∃ b : Bool, e = .returned (.tuple #[.bool b, .nilIface])) ∧ StoD w' base T d' ∧ Fr tG base w w'
theorem zdV (base T : Nat) (d : Desk) (vi : Value) (a : Ad) (id at_ rid : ByteArray) (w : World) (h : StoD w base T d) (hi : AdAt w vi a) (ok : a.ok) (hn : d.held.length ≤ 1000) (hB : base ≤ w.heap.size) :
  Calls Tryz.prog 40 #[.pointer (some ⟨T, 0, none⟩), .string id, .string at_, vi, .string rid] w (ResD w base T (d.res a id at_)) := by
 obtain ⟨hs, he, hs'⟩ := h
 refine (xP base T hs d.last vi a id at_ rid w hs' hi ok (by rw [← he, List.length_map] at hn; exact hn) hB).mono ?_
 rintro e w' (⟨⟨x, hx, hxa⟩, rfl, hb⟩ | ⟨hno, rfl, ⟨v, h1⟩, hf⟩)
 ·have hh : hasA d.ads a = true := List.any_eq_true.2 ⟨x.a, by unfold Desk.ads; rw [← zfI he]; exact List.mem_map_of_mem hx, decide_eq_true hxa⟩
  unfold Desk.res
  rw [if_pos hh]
  exact ⟨⟨_, rfl⟩, ⟨hs, he, hs'.on hb⟩, Fr.of_below hb⟩
 ·have hh : hasA d.ads a = false := List.any_eq_false.2 (fun y hy => by
   unfold Desk.ads at hy
   rw [← zfI he] at hy
   obtain ⟨x, hx, rfl⟩ := List.mem_map.1 hy
   simpa using hno x hx)
  unfold Desk.res
  rw [if_neg (by rw [hh]; decide)]
  exact ⟨⟨_, rfl⟩, ⟨hs ++ [⟨v, a, id, at_⟩], by rw [List.map_append, he]; rfl, h1⟩, hf.mono (fun t ht => by simp [tS] at ht; simp [tG]; omega)⟩
theorem StoD.last {w : World} {base T : Nat} {d : Desk} {v : Value} {o : Option Ad} (h : StoD w base T d) (hv : OptAt w v o) (ok : ∀ a, o = some a → a.ok) : StoD (w.setCell ⟨T, 1, none⟩ v) base T ⟨d.held, o⟩ ∧ Fr [96] base w (w.setCell ⟨T, 1, none⟩ v) := by
 obtain ⟨hs, he, hs'⟩ := h
 obtain ⟨hv0, lv, hT, hr, hl⟩ := hs'.rows
 obtain ⟨b, n, c, rfl⟩ := hl.slice
 have hf : Fr [96] base w (w.setCell ⟨T, 1, none⟩ v) := Fr.set hT (by simp) hs'.lo (fun x => by rw [cell_of_row _ _ 1 _ _ _ hT]; simp [u8v])
 exact ⟨⟨hs, he, ⟨⟨hv0, v, heap_setCell_same w T 1 _ _ _ hT, hr.fr hf (by decide), hv.stay hf.bk⟩, fun x hx => (hs'.ents x hx).stay hf.bk, hs'.oks, ok, hs'.lo⟩⟩, hf⟩
def zlU (w : World) (SV T : Nat) (e : Ending) (w' : World) : Prop := ∃ A rid, e = .returned (.pointer (some ⟨A, 0, none⟩)) ∧ zS w' A SV T rid ∧ w.heap.size ≤ A ∧ Below w.heap.size w w'
theorem zaQ (SV T : Nat) (w : World) (ht : Tab w) :
  Calls Tryz.prog 41 #[.pointer (some ⟨SV, 0, none⟩), .iface 93 (.pointer (some ⟨T, 0, none⟩)), .int .i64 0] w (zlU w SV T) := by
 have HI := zh (show Calls Tryz.prog 56 #[.int .i64 0] w (TextPost w (decL 0)) from zfG 0 w (by omega) ht)
 clear ht
 go_enter Tryz.func41, Tryz.ntmps41
 go_wp2_with fail
 refine HI.out.mono ?_
 rintro e w1 ⟨s, rfl, _, hb⟩
 have HB := zh hb
 clear hb
 go_wp2_with fail
 go_ret
 exact ⟨w1.heap.size, s, rfl, heap_alloc_new w1 _, HB.out.size, HB.out.alloc HB.out.size _⟩
theorem zgK (args : Array Value) (w : World) : (callFunc 44 args).run Tryz.prog w = .ok (.enter 44 args) w := by kernel_rfl
def tT : List Nat := [109, 96, 223, 41]
structure AlVars (w : World) (PA PT PO PG A T : Nat) (o : OpIn) : Prop where
 pa : w.heap[PA]? = some (.cells #[.pointer (some ⟨A, 0, none⟩)] 102 (0, 0))
 pt : w.heap[PT]? = some (.cells #[.pointer (some ⟨T, 0, none⟩)] 93 (0, 0))
 po : w.heap[PO]? = some (.cells #[.int .i64 o.kind, .string o.id, .string o.at_, .string o.asked] 45 (0, 0))
 pg : w.heap[PG]? = some (.cells #[.string ⟨#[]⟩, .string ⟨#[]⟩, .bool false] 41 (0, 0))
theorem AlVars.on {w w' : World} {PA PT PO PG A T : Nat} {o : OpIn} (h : AlVars w PA PT PO PG A T o) (hb : Below w.heap.size w w') : AlVars w' PA PT PO PG A T o := ⟨row_on hb h.pa, row_on hb h.pt, row_on hb h.po, row_on hb h.pg⟩
def Al1 (base T : Nat) (d' : Desk) (g : Giv) (PG : Nat) (w w' : World) : Prop := StoD w' base T d' ∧ Fr tT base w w' ∧ w'.heap[PG]? = some (.cells #[.string ⟨g.addr.toArray⟩, .string ⟨g.gate.toArray⟩, .bool g.ok] 41 (0, 0)) ∧
 ∀ (k : Nat) (cs : Array Value) (f : Nat × Nat), k ≠ PG → w.heap[k]? = some (.cells cs 41 f) → w'.heap[k]? = some (.cells cs 41 f)
theorem zlV (w0 : World) (T : Nat) (d : Desk) (SV g cap : Nat) (Rs : List RIn) (A : Nat) (rid : ByteArray) (rd : Option Ad → List (Nat × Ad)) (o : OpIn) (PA PT PO PG : Nat) (w : World) (hb0 : Below w0.heap.size w0 w) (ht : Tab w0) (hsto : StoD w w0.heap.size T d) (hset : SetH w0.heap.size w SV g cap Rs) (hA : zS w A SV T rid) (hrd : Rd Rs rd) (ho : OpOK o) (hne : 0 < Rs.length) (hn : d.held.length ≤ 1000) (hv : AlVars w PA PT PO PG A T o) (hPG : w0.heap.size ≤ PG) :
  Calls Tryz.prog 44 #[.pointer (some ⟨PA, 0, none⟩), .pointer (some ⟨PT, 0, none⟩), .pointer (some ⟨PO, 0, none⟩), .pointer (some ⟨PG, 0, none⟩)] w (fun e w' => e = .returned (.tuple #[]) ∧ Al1 w0.heap.size T (stepD Rs rd d o).2 (stepD Rs rd d o).1 PG w w') := by
 have HS := zh (zkM w0 T d SV g cap Rs A rid rd o w hb0 ht hsto hset hA hrd ho hne hn)
 have HV := zh hv
 have c0 := cell_of_row w PA 0 _ _ _ hv.pa
 have c1 := cell_of_row w PT 0 _ _ _ hv.pt
 have d0 := cell_of_row w PO 0 _ _ _ hv.po
 have d1 := cell_of_row w PO 1 _ _ _ hv.po
 have d2 := cell_of_row w PO 2 _ _ _ hv.po
 have d3 := cell_of_row w PO 3 _ _ _ hv.po
 clear hb0 ht hsto hset hA hrd ho hv
 obtain ⟨kind, id, at_, asked, ad⟩ := o
 generalize (stepD Rs rd d ⟨kind, id, at_, asked, ad⟩).1 = gv at HS ⊢
 generalize (stepD Rs rd d ⟨kind, id, at_, asked, ad⟩).2 = d' at HS ⊢
 obtain ⟨ga, gg, gk⟩ := gv
 unfold OpIn.val at HS
 go_enter Tryz.func44, Tryz.ntmps44
 go_wp2_with fail
 refine HS.out.mono ?_
 rintro e w1 ⟨rfl, hs1, hf1⟩
 have hr := hf1.rows _ _ _ _ HV.out.pg (by decide)
 have HR := zh hr
 have HS1 := zh hs1
 have HF1 := zh hf1
 have r0 := cell_of_row w1 _ 0 _ _ _ hr
 have r1 := cell_of_row w1 _ 1 _ _ _ hr
 have r2 := cell_of_row w1 _ 2 _ _ _ hr
 have z0 := frozen_of_row w1 _ 0 _ _ hr
 have z1 := frozen_of_row w1 _ 1 _ _ hr
 have z2 := frozen_of_row w1 _ 2 _ _ hr
 clear hr hs1 hf1 HS c0 c1 d0 d1 d2 d3
 unfold Giv.val
 go_wp2_with fail
 go_end0
 have h := zbW (base := w0.heap.size) (t0 := ⟨ga.toArray⟩) (t1 := ⟨gg.toArray⟩) (y := gk) HR.out hPG
 refine ⟨rfl, HS1.out.fr h.2 (by decide) (by decide), (HF1.out.mono (fun t ht => by simp [tG] at ht; simp [tT]; omega)).trans (h.2.mono (fun t ht => by simp at ht; simp [tT, ht])), h.1, fun k cs f hk hc => ?_⟩
 exact (Below.heap_setCell _ _ _ _ hk).trans ((Below.heap_setCell _ _ _ _ hk).trans ((Below.heap_setCell _ _ _ _ hk).trans (HF1.out.rows _ _ _ _ hc (by decide))))
theorem zdW (w0 : World) (T : Nat) (d : Desk) (SV g cap : Nat) (Rs : List RIn) (A : Nat) (rid : ByteArray) (rd : Option Ad → List (Nat × Ad)) (o : OpIn) (PA PT PO PG : Nat) (w : World) (hb0 : Below w0.heap.size w0 w) (ht : Tab w0) (hsto : StoD w w0.heap.size T d) (hset : SetH w0.heap.size w SV g cap Rs) (hA : zS w A SV T rid) (hrd : Rd Rs rd) (ho : OpOK o) (hne : 0 < Rs.length) (hn : d.held.length ≤ 1000) (hv : AlVars w PA PT PO PG A T o) (hPG : w0.heap.size ≤ PG) :
  Calls Tryz.prog 43 #[.func (.func 44) #[] #[.pointer (some ⟨PA, 0, none⟩), .pointer (some ⟨PT, 0, none⟩), .pointer (some ⟨PO, 0, none⟩), .pointer (some ⟨PG, 0, none⟩)]] w (fun e w' => e = .returned (.bool true) ∧ Al1 w0.heap.size T (stepD Rs rd d o).2 (stepD Rs rd d o).1 PG w w') := by
 have htb : Below w.heap.size w (yI w) := (Below.refl w.heap.size w).alloc (Nat.le_refl _) _
 have hnew : (yI w).heap[w.heap.size]? = some (.cells #[.bool false] 4 (0, 0)) := heap_alloc_new w _
 refine (zfD _ _ w _ zgK (zlV w0 T d SV g cap Rs A rid rd o PA PT PO PG (yI w) (below_tr hb0 htb) ht (hsto.on htb) (hset.on htb) (hA.fr (ts := []) (base := 0) (Fr.of_below htb) (by simp)) hrd ho hne hn (hv.on htb) hPG) (fun w' hr => hr.2.1.rows _ _ _ _ hnew (by decide))).mono ?_
 rintro e w' ⟨rfl, w1, ⟨h1, h2, h3, h4⟩, rfl⟩
 have hr := h2.rows _ _ _ _ hnew (by decide)
 have hg := (Array.getElem?_eq_some_iff.1 hv.pg).1
 have hf : Fr [4] w0.heap.size w1 (w1.setCell ⟨w.heap.size, 0, none⟩ (.bool true)) := Fr.set hr (by simp) hb0.size (fun x => by rw [cell_of_row _ _ 0 _ _ _ hr]; simp [u8v])
 refine ⟨rfl, h1.fr hf (by decide) (by decide), ((Fr.of_below htb).trans h2).then ((Below.refl _ _).setCell (by exact Nat.le_refl _) _), (Below.heap_setCell _ _ _ _ (by show PG ≠ w.heap.size; omega)).trans h3, fun k cs f hk hc => ?_⟩
 have hkl := (Array.getElem?_eq_some_iff.1 hc).1
 exact (Below.heap_setCell _ _ _ _ (by show k ≠ w.heap.size; omega)).trans (h4 k cs f hk ((htb.block k hkl).trans hc))
end Go.Proofs.YtnehofekgnbelaaGreatDoor
namespace Go.Proofs.YtnehofekgnbelaaGreatDoor
open Go.RowKit Go.Sort
set_option linter.unusedVariables false
set_option maxRecDepth 100000
set_option maxHeartbeats 1000000
def sortL (ls : List (List UInt8)) : List (List UInt8) := ls.mergeSort fun x y => decide (x ≤ y)
theorem yA (ls : List (List UInt8)) : (sortL ls).length = ls.length := List.length_mergeSort _
theorem xS {w : World} {blk k : Nat} {f : Array Value → Array Value} (h : k ≠ blk) : (mapBlock w blk f).heap[k]? = w.heap[k]? := by
 unfold mapBlock
 simp only [Array.getElem?_modify]
 rw [if_neg (fun e => h e.symm)]
def zkN (w : World) (base : Nat) (v : Value) (ls : List (List UInt8)) (e : Ending) (w' : World) : Prop :=
 e = .returned (.tuple #[]) ∧ Fr [9] base w w' ∧ ∀ (j : Nat) (x : List UInt8), (sortL ls)[j]? = some x → ∃ g c, v = .slice (some ⟨g, 0, none⟩) ls.length c ∧ w'.cell? ⟨g, j, none⟩ = some (.string ⟨x.toArray⟩)
theorem zfL (base : Nat) (v : Value) (ss : List ByteArray) (ls : List (List UInt8)) (w : World) (h : SRow w base v ss) (hl : ss.map bl = ls) (hn : ss.length ≤ 1000000) :
  Calls Tryz.prog 46 #[v] w (zkN w base v ls) := by
 subst hl
 by_cases h0 : ss.length = 0
 ·obtain rfl := List.length_eq_zero_iff.1 h0
  obtain ⟨ao, c, rfl, _⟩ := h.form
  refine (Tryz.slices_Sort_string_none ao c w).mono ?_
  rintro e w' ⟨rfl, rfl⟩
  refine ⟨rfl, Fr.refl _ _ _, fun j x hx => ?_⟩
  have := (List.getElem?_eq_some_iff.1 hx).1
  rw [yA] at this
  simp at this
 ·obtain ⟨g, c, rfl, hg1, hg2, hcap, hown, hcs⟩ := h.cells (by omega)
  have hH : Holds encStr w g 0 (ss.map bl).toArray := by
   intro j hj
   have hj' : j < ss.length := by simpa using hj
   refine ⟨?_, ?_⟩
   ·rw [hcs j ss[j] (List.getElem?_eq_getElem hj')]
    rw [getElem!_pos _ j hj]
    simp [encStr, bl]
   ·exact hown.frozen _
  have hS := Tryz.slices_Sort_string g 0 c (ss.map bl) w hH hg2 (by rw [List.length_map]; omega)
  rw [List.length_map] at hS
  refine hS.mono ?_
  rintro e w' ⟨rfl, n, os, rfl⟩
  have hsz : (putRow encStr (Sort.ahead w n) g 0 ((ss.map bl).mergeSort fun x y => decide (x ≤ y)).toArray).heap.size = w.heap.size := by
   unfold putRow mapBlock
   simp [Sort.ahead]
  have hold : ∀ k, k < w.heap.size → k ≠ g → (grow (putRow encStr (Sort.ahead w n) g 0 ((ss.map bl).mergeSort fun x y => decide (x ≤ y)).toArray) os).heap[k]? = w.heap[k]? := fun k hk hne => by
   rw [heap_grow_old _ _ (by rw [hsz]; exact hk)]
   exact xS hne
  refine ⟨rfl, ⟨rfl, rfl, rfl, ?_, fun k hk hkl => hold k hkl (by omega), fun k cs t f hk ht => ?_, fun q x hq => ?_⟩, fun j x hx => ⟨g, c, by rw [List.length_map], ?_⟩⟩
  ·unfold grow
   simp only [Array.size_append]
   rw [hsz]
   omega
  ·rw [hold k (Array.getElem?_eq_some_iff.1 hk).1 (fun e => ?_)]
   ·exact hk
   ·subst e
    obtain ⟨_, _, _, _, cur, h5, _⟩ := hown
    rw [hk] at h5
    cases h5
    exact ht (by simp)
  ·have hlt := World.block_lt_of_cell? w _ hq
   have hqg : q.block ≠ g := fun e => by
    have hs := spot_none_of_cell hq
    obtain ⟨b, o, sp⟩ := q
    simp only at e hs
    subst e
    subst hs
    exact zcH x (hown.kind _ _ hq)
   rw [cell?_grow _ _ _ (by rw [hsz]; exact hlt), cell?_putRow_other _ _ _ _ _ _ (.inl hqg)]
   exact hq
  ·have hj := (List.getElem?_eq_some_iff.1 hx).1
   have hj' : j < ss.length := by rw [yA, List.length_map] at hj; exact hj
   have hc := cell?_putRow encStr (Sort.ahead w n) g 0 (ss.map bl).toArray ((ss.map bl).mergeSort fun x y => decide (x ≤ y)).toArray (holds_ahead _ _ _ _ _ _ hH) (by simp) j (by simp; omega)
   rw [Nat.zero_add] at hc
   rw [cell?_grow _ _ _ (by rw [hsz]; exact hg2), hc]
   have : ((ss.map bl).mergeSort fun x y => decide (x ≤ y)).toArray[j]! = x := by
    have h2 : ((ss.map bl).mergeSort fun x y => decide (x ≤ y))[j]? = some x := hx
    rw [Array.getElem!_eq_getD, Array.getD_eq_getD_getElem?, List.getElem?_toArray, h2]
    rfl
   rw [this]
end Go.Proofs.YtnehofekgnbelaaGreatDoor
namespace Go.Proofs.YtnehofekgnbelaaGreatDoor
open Go.RowKit
set_option linter.unusedVariables false
set_option maxRecDepth 100000
set_option maxHeartbeats 1000000
def otherB : ByteArray := ⟨#[111, 116, 104, 101, 114]⟩
def zJ (al : List Ad) : Desk := al.foldl (fun d a => d.res a otherB otherB) ⟨[], none⟩
theorem zbX (al : List Ad) (a : Ad) : zJ (al ++ [a]) = (zJ al).res a otherB otherB := by simp [zJ]
def runF (Rs : List RIn) (rd : Option Ad → List (Nat × Ad)) (p : List Giv × Desk) (o : OpIn) : List Giv × Desk := (p.1 ++ [(stepD Rs rd p.2 o).1], (stepD Rs rd p.2 o).2)
def runD (Rs : List RIn) (rd : Option Ad → List (Nat × Ad)) (d : Desk) (os : List OpIn) : List Giv × Desk := os.foldl (runF Rs rd) ([], d)
theorem zbY (Rs : List RIn) (rd : Option Ad → List (Nat × Ad)) (d : Desk) (os : List OpIn) (o : OpIn) : runD Rs rd d (os ++ [o]) = runF Rs rd (runD Rs rd d os) o := by simp [runD]
theorem zcI (d : Desk) (id at_ : ByteArray) (r : Option (Nat × Ad)) : (d.got id at_ r).held.length ≤ d.held.length + 1 := by
 cases r with
 | none => show d.held.length ≤ _; omega
 | some p => simp [Desk.got]
theorem zgL (d : Desk) (a : Ad) (id at_ : ByteArray) : (d.res a id at_).held.length ≤ d.held.length + 1 := by
 unfold Desk.res
 split
 ·omega
 ·exact zcI _ _ _ _
theorem zdX (Rs : List RIn) (rd : Option Ad → List (Nat × Ad)) (d : Desk) (o : OpIn) : (stepD Rs rd d o).2.held.length ≤ d.held.length + 1 := by
 unfold stepD
 split
 ·exact zcI _ _ _ _
 ·exact Nat.le_trans (List.length_filter_le _ _) (Nat.le_succ _)
 ·exact Nat.le_succ _
theorem yC (al : List Ad) : (zJ al).held.length ≤ al.length := by
 suffices h : ∀ (al : List Ad) (d : Desk), (al.foldl (fun d a => d.res a otherB otherB) d).held.length ≤ d.held.length + al.length by
  have := h al ⟨[], none⟩
  simpa [zJ] using this
 intro al
 induction al with
 | nil => intro d; simp
 | cons a al ih =>
  intro d
  have h1 := ih (d.res a otherB otherB)
  have h2 := zgL d a otherB otherB
  simp only [List.foldl_cons, List.length_cons]
  omega
theorem zP (Rs : List RIn) (rd : Option Ad → List (Nat × Ad)) (d : Desk) (os : List OpIn) : (runD Rs rd d os).1.length = os.length ∧ (runD Rs rd d os).2.held.length ≤ d.held.length + os.length := by
 suffices h : ∀ (os : List OpIn) (p : List Giv × Desk), (os.foldl (runF Rs rd) p).1.length = p.1.length + os.length ∧ (os.foldl (runF Rs rd) p).2.held.length ≤ p.2.held.length + os.length by
  have := h os ([], d)
  simpa [runD] using this
 intro os
 induction os with
 | nil => intro p; simp
 | cons o os ih =>
  intro p
  have h1 := ih (runF Rs rd p o)
  have h2 := zdX Rs rd p.2 o
  simp only [List.foldl_cons, List.length_cons, runF, List.length_append, List.length_nil] at h1 ⊢
  omega
def leftB (e : Ent) : List UInt8 := e.a.text ++ 32 :: (bl e.id ++ 32 :: bl e.at_)
def isGv (u : Value) : Prop := (∃ s, u = .string s) ∨ ∃ b, u = .bool b
theorem gv_nb (x : UInt8) : ¬ isGv (u8v x) := by rintro (⟨_, h⟩ | ⟨_, h⟩) <;> simp [u8v] at h
def Giv.vals (g : Giv) : List Value := [.string ⟨g.addr.toArray⟩, .string ⟨g.gate.toArray⟩, .bool g.ok]
def flatG (gs : List Giv) : List Value := gs.flatMap Giv.vals
theorem zcW (gs : List Giv) (j c : Nat) (g : Giv) (hj : gs[j]? = some g) (hc : c < 3) : (flatG gs)[j * 3 + c]? = g.vals[c]? := zbF Giv.vals 3 (fun _ => rfl) gs j c g hj hc
theorem zlI : (Tryz.prog.info? 41).map (fun i => (i.zero, i.size, i.bytes)) = some (some (.agg #[.string ⟨#[]⟩, .string ⟨#[]⟩, .bool false]), 3, 40) := by kernel_rfl
theorem zeW (k : Nat) : ∀ u ∈ (Builtin.zeroCells (Value.agg #[.string ⟨#[]⟩, .string ⟨#[]⟩, .bool false]).cells k).toList, isGv u := by
 intro u hu
 unfold Builtin.zeroCells at hu
 simp only [Array.toList_map, List.mem_map] at hu
 obtain ⟨i, _, rfl⟩ := hu
 have hlt : i % 3 < 3 := Nat.mod_lt _ (by decide)
 show isGv (#[Value.string ⟨#[]⟩, .string ⟨#[]⟩, .bool false][i % 3]!)
 generalize i % 3 = j at hlt
 obtain rfl | rfl | rfl : j = 0 ∨ j = 1 ∨ j = 2 := by omega
 ·exact .inl ⟨_, rfl⟩
 ·exact .inl ⟨_, rfl⟩
 ·exact .inr ⟨_, rfl⟩
def GRow (w : World) (base : Nat) (v : Value) (gs : List Giv) : Prop := RowP w base 41 3 isGv v gs.length (flatG gs)
theorem GRow.next {w w' : World} {base g c : Nat} {v : Value} {gs : List Giv} {x : Giv} (hr : GRow w base v gs) (ho : OwnP w' base 41 3 isGv g (gs.length + 1) c (flatG gs ++ x.vals)) (hg : w.grownBy w' v.ownBlock) :
  GRow w' base (.slice (some ⟨g, 0, none⟩) (gs.length + 1) c) (gs ++ [x]) ∧ Fr [41] base w w' :=
 ⟨.inr ⟨g, c, by simp, by
  have : flatG (gs ++ [x]) = flatG gs ++ x.vals := by simp [flatG]
  rw [this]
  simpa using ho⟩, RowP.fr_grown hr gv_nb (by simp) hg⟩
def OpsV (w : World) (ao : Option Addr) (os : List OpIn) : Prop :=
 ∀ (i : Nat) (o : OpIn), os[i]? = some o → ∃ b off, ao = some ⟨b, off, none⟩ ∧ b < w.heap.size ∧ w.cell? ⟨b, off + i * 4, none⟩ = some (.int .i64 o.kind) ∧ w.cell? ⟨b, off + i * 4 + 1, none⟩ = some (.string o.id) ∧ w.cell? ⟨b, off + i * 4 + 2, none⟩ = some (.string o.at_) ∧ w.cell? ⟨b, off + i * 4 + 3, none⟩ = some (.string o.asked)
theorem OpsV.on {w w' : World} {ao : Option Addr} {os : List OpIn} (h : OpsV w ao os) (hb : Below w.heap.size w w') : OpsV w' ao os := by
 intro i x hx
 obtain ⟨b, off, e, hlt, c0, c1, c2, c3⟩ := h i x hx
 exact ⟨b, off, e, Nat.lt_of_lt_of_le hlt hb.size, (hb.cell hlt).trans c0, (hb.cell hlt).trans c1, (hb.cell hlt).trans c2, (hb.cell hlt).trans c3⟩
structure OpFit (o : OpIn) : Prop where
 ok : OpOK o
 l1 : o.id.size ≤ 64
 l2 : o.at_.size ≤ 64
 l3 : o.asked.size ≤ 64
 s1 : 32 ∉ bl o.id
 s2 : 32 ∉ bl o.at_
theorem xY {l : List UInt8} {c : UInt8} (h : c ∉ l) : Lib.indexByte l c = -1 := by
 induction l with
 | nil => rfl
 | cons b l ih =>
  simp only [List.mem_cons, not_or] at h
  unfold Lib.indexByte
  rw [if_neg (by simpa using fun e => h.1 e.symm), ih h.2]
  rfl
def IdsOK (d : Desk) : Prop := ∀ e ∈ d.held, e.id.size ≤ 64 ∧ e.at_.size ≤ 64
theorem ziD {d : Desk} {id at_ : ByteArray} {r : Option (Nat × Ad)} (h : IdsOK d) (h1 : id.size ≤ 64) (h2 : at_.size ≤ 64) : IdsOK (d.got id at_ r) := by
 cases r with
 | none => exact h
 | some p =>
  intro e he
  rcases List.mem_append.1 he with he | he
  ·exact h e he
  ·obtain rfl := List.mem_singleton.1 he
   exact ⟨h1, h2⟩
theorem ziE {Rs : List RIn} {rd : Option Ad → List (Nat × Ad)} {d : Desk} {o : OpIn} (h : IdsOK d) (ho : OpFit o) : IdsOK (stepD Rs rd d o).2 := by
 unfold stepD
 split
 ·exact ziD h ho.l1 ho.l2
 ·exact fun e he => h e (List.mem_filter.1 he).1
 ·exact h
theorem zcJ (al : List Ad) : IdsOK (zJ al) := by
 suffices h : ∀ (al : List Ad) (d : Desk), IdsOK d → IdsOK (al.foldl (fun d a => d.res a otherB otherB) d) from h al _ (fun e he => by cases he)
 intro al
 induction al with
 | nil => intro d h; exact h
 | cons a al ih =>
  intro d h
  refine ih _ (show IdsOK (d.res a otherB otherB) from ?_)
  unfold Desk.res
  split
  ·exact h
  ·exact ziD h (by decide) (by decide)
theorem zcX {Rs : List RIn} {rd : Option Ad → List (Nat × Ad)} {d : Desk} {os : List OpIn} (h : IdsOK d) (ho : ∀ o ∈ os, OpFit o) : IdsOK (runD Rs rd d os).2 := by
 suffices H : ∀ (os : List OpIn) (p : List Giv × Desk), IdsOK p.2 → (∀ o ∈ os, OpFit o) → IdsOK (os.foldl (runF Rs rd) p).2 from H os ([], d) h ho
 intro os
 induction os with
 | nil => intro p h _; exact h
 | cons o os ih => intro p h ho; exact ih _ (ziE h (ho o (by simp))) (fun q hq => ho q (by simp [hq]))
def zcY (ts : List ByteArray) (al : List Ad) : Prop := al.length = ts.length ∧ ∀ (j : Nat) (s : ByteArray), ts[j]? = some s → ∃ a, al[j]? = some a ∧ readL (bl s) = some a ∧ a.ok ∧ s.size ≤ 64
def zfM (s : ByteArray) (o : Option Ad) : Prop := match o with
 | none => s = ⟨#[]⟩
 | some a => readL (bl s) = some a ∧ a.ok ∧ s.size ≤ 64 ∧ s.toList.isEmpty = false
theorem zcZ {xs : List Tx} {Rs : List RIn} (h : TxAll xs Rs) (hi : implB Rs = true) : 0 < Rs.length ∧ ∀ R ∈ Rs, Good R := by
 have hne : 0 < Rs.length := by
  cases Rs with
  | nil => cases hi
  | cons _ _ => simp
 refine ⟨hne, fun R hR => ?_⟩
 have hok : okR R = true := by
  cases Rs with
  | nil => cases hi
  | cons Q l =>
   rw [yE] at hi
   simp only [Bool.and_eq_true] at hi
   exact List.all_eq_true.1 hi.1.1 R hR
 obtain ⟨i, hiR⟩ := List.getElem?_of_mem hR
 have hil : i < xs.length := by have := (List.getElem?_eq_some_iff.1 hiR).1; have := h.1; omega
 obtain ⟨S, h1, h2⟩ := h.2 i xs[i] (List.getElem?_eq_getElem hil)
 rw [hiR] at h1
 cases h1
 exact ⟨h2.2.1, hok, h2.2.2.1⟩
theorem zdY {R Q : RIn} {a : Ad} (hR : Good R) (hQ : Good Q) (h : ovrR R Q = false) (h1 : inR R a = true) (h2 : inR Q a = true) : False := by
 rw [zcP hR.g hR.ok hQ.g hQ.ok] at h
 obtain ⟨a1, a2, a3⟩ := zaG.1 h1
 obtain ⟨b1, b2, b3⟩ := zaG.1 h2
 have : meetB R.a (zB R) (zC R) Q.a (zB Q) (zC Q) = true := by
  unfold meetB
  simp only [Bool.and_eq_true, beq_iff_eq, decide_eq_true_eq]
  exact ⟨⟨a1.symm.trans b1, by omega⟩, by omega⟩
 rw [h] at this
 cases this
theorem zdZ {Rs : List RIn} (h : xL Rs = true) : ∀ (i j : Nat) (R Q : RIn), Rs[i]? = some R → Rs[j]? = some Q → i < j → ovrR R Q = false := fun i j R Q hi hj hij =>
 Bool.eq_false_iff.2 fun ho => by
  have := zaE hi hj hij ho
  rw [h] at this
  cases this
theorem zlJ {Rs : List RIn} (hg : ∀ R ∈ Rs, Good R) (h : implB Rs = true) : Dis Rs := by
 have ha : xL Rs = true := by
  cases Rs with
  | nil => cases h
  | cons R l =>
   rw [yE] at h
   simp only [Bool.and_eq_true] at h
   exact h.2
 intro i j R Q a hi hj h1 h2
 have gR := hg R (List.mem_of_getElem? hi)
 have gQ := hg Q (List.mem_of_getElem? hj)
 by_cases hij : i < j
 ·exact (zdY gR gQ (zdZ ha i j R Q hi hj hij) h1 h2).elim
 ·by_cases hji : j < i
  ·exact (zdY gQ gR (zdZ ha j i Q R hj hi hji) h2 h1).elim
  ·omega
def allG (Rs : List RIn) : List (Nat × Ad) := (zF 0 Rs).filter (nonG Rs)
def adG (Rs : List RIn) : List Ad := (allG Rs).map fun p => p.2
theorem zkO {Rs : List RIn} (hg : ∀ R ∈ Rs, Good R) (hd : Dis Rs) : (zF 0 Rs).Pairwise fun p q => p.2 ≠ q.2 := by
 rw [List.pairwise_iff_getElem]
 intro i j hi hj hij e
 have := zaP Rs 0 (fun R hR => (hg R hR).rng) hd i j _ _ (List.getElem?_eq_getElem hi) (List.getElem?_eq_getElem hj) e
 omega
def cntR (R : RIn) : Nat := (zC R).n - (zB R).n + 1 - if inR R (zE R) then 1 else 0
def sumR (Rs : List RIn) : Nat := (Rs.map cntR).sum
def sizeZ (Rs : List RIn) : Int := if setB [] Rs = true ∧ (∀ R ∈ Rs, (zC R).n - (zB R).n ≤ 1000) ∧ sumR Rs ≤ 1000 then (sumR Rs : Int) else -1
theorem zeA {Rs : List RIn} (h : 0 ≤ sizeZ Rs) : setB [] Rs = true ∧ sizeZ Rs = sumR Rs ∧ sumR Rs ≤ 1000 := by
 unfold sizeZ at h ⊢
 split
 ·rename_i hc
  exact ⟨hc.1, rfl, hc.2.2⟩
 ·rename_i hc
  rw [if_neg hc] at h
  omega
def idL (i : Nat) : ByteArray := ⟨#[UInt8.ofNat (97 + i % 26), UInt8.ofNat (97 + i / 26)]⟩
structure ExInv (Rs : List RIn) (k : Nat) (p : List Giv × Desk) : Prop where
 len : p.1.length = k
 ok : ∀ g ∈ p.1, g.ok = true
 held : p.2.held.length = k
 nodup : (p.2.held.map Ent.a).Nodup
 sub : ∀ e ∈ p.2.held, e.a ∈ adG Rs
 ids : ∀ e ∈ p.2.held, ∃ i, i < k ∧ e.id = idL i
theorem zfN {al : List Ad} {a : Ad} : hasA al a = true ↔ a ∈ al := by
 unfold hasA
 rw [List.any_eq_true]
 constructor
 ·rintro ⟨x, hx, he⟩
  rw [← of_decide_eq_true he]
  exact hx
 ·intro h
  exact ⟨a, h, decide_eq_true rfl⟩
theorem ziF (Rs : List RIn) (k : Nat) (R : RIn) (h : Rs[k]? = some R) : sumR (Rs.take (k + 1)) = sumR (Rs.take k) + cntR R := by
 rw [zbB h]
 unfold sumR
 rw [List.map_append, List.sum_append]
 simp
theorem ziG {Rs : List RIn} (h : setB [] Rs = false) : sizeZ Rs = -1 := by
 unfold sizeZ
 rw [if_neg (by rw [h]; simp)]
theorem zeX {Rs : List RIn} {R : RIn} (hR : R ∈ Rs) (h : 1000 < (zC R).n - (zB R).n) : sizeZ Rs = -1 := by
 unfold sizeZ
 rw [if_neg (fun hc => by have := hc.2.1 R hR; omega)]
theorem ziH {Rs : List RIn} (h : setB [] Rs = true) (ha : ∀ R ∈ Rs, (zC R).n - (zB R).n ≤ 1000) : sizeZ Rs = if sumR Rs ≤ 1000 then (sumR Rs : Int) else -1 := by
 unfold sizeZ
 by_cases hs : sumR Rs ≤ 1000
 ·rw [if_pos ⟨h, ha, hs⟩, if_pos hs]
 ·rw [if_neg (fun hc => hs hc.2.2), if_neg hs]
theorem ziI {xs : List Tx} {Rs : List RIn} (h : TxAll xs Rs) : ∀ R ∈ Rs, yP R := fun R hR => by
 obtain ⟨t, ht⟩ := List.getElem?_of_mem hR
 have hl : t < xs.length := by have := (List.getElem?_eq_some_iff.1 ht).1; have := h.1; omega
 obtain ⟨S, h1, h2⟩ := h.2 t (xs[t]'hl) (List.getElem?_eq_getElem hl)
 rw [ht] at h1
 cases h1
 exact h2.2.2.1
theorem zdA {xs : List Tx} {Rs : List RIn} (h : TxAll xs Rs) (hs : setB [] Rs = true) : implB Rs = true := by
 rw [zhO Rs (ziI h)]
 exact hs
structure SzRel (w : World) (Rs : List RIn) (v : Value) (k : Nat) (wr : World) : Prop where
 own : wr.ownsRow w.heap.size 63 9 v Rs.length (flatS Rs)
 below : Below w.heap.size w wr
 all : ∀ (j : Nat) (R : RIn), j < k → Rs[j]? = some R → (zC R).n - (zB R).n ≤ 1000
theorem zeB (ao : Option Addr) (cap : Nat) (xs : List Tx) (Rs : List RIn) (w : World) (h : RgsV w ao xs) (hx : TxAll xs Rs) (h4 : xs.length ≤ 8) :
  Calls Tryz.prog 19 #[.slice ao xs.length cap] w (BelowPost w (.int .i64 (sizeZ Rs))) := by
 have HS := zh (xM ao cap xs Rs w h hx (by omega))
 have HX := zh hx
 have hl := hx.1
 clear h hx
 go_enter Tryz.func19, Tryz.ntmps19
 go_wp2_with fail
 refine HS.out.mono ?_
 rintro e w1 ⟨v, rfl, hb1, ho1⟩
 have HB1 := zh hb1
 have HO1 := zh ho1
 clear hb1 ho1 HS
 cases hset : setB [] Rs with
 | false =>
  have HZ := zh (ziG hset)
  clear hset
  go_wp2_with fail
  go_ret
  exact ⟨by rw [HZ.out]; rfl, HB1.out⟩
 | true =>
  have HSET := zh hset
  obtain ⟨hne, hgood⟩ := zcZ HX.out (zdA HX.out hset)
  have HG := zh hgood
  obtain ⟨av, cv, rfl, hav⟩ := yK (HO1.out hset)
  obtain ⟨g, rfl⟩ := hav hne
  have HO := zh (HO1.out hset)
  clear hset hgood hav HO1
  go_wp2_with fail
  go_loopw [5, 17] (fun n i wr => ∃ k : Nat, i = .int .i64 k ∧ k ≤ Rs.length ∧ n = .int .i64 (sumR (Rs.take k)) ∧ sumR (Rs.take k) ≤ k * 1001 ∧ Hid (SzRel w Rs (.slice (some ⟨g, 0, none⟩) Rs.length cv) k wr)) (fun _ i _ => Rs.length - (intOf i).toNat)
  case atStart => exact ⟨0, rfl, by omega, rfl, by simp [sumR], zh ⟨HO.out, HB1.out, fun j R hj => absurd hj (by omega)⟩⟩
  case round =>
   obtain ⟨k, rfl, hk, rfl, hs, hr⟩ := hrel
   by_cases hlt : k < Rs.length
   ·have tk : decide ((k : Int) < Rs.length) = true := decide_eq_true (by omega)
    have hR : Rs[k]? = some Rs[k] := List.getElem?_eq_getElem hlt
    have hRm : Rs[k] ∈ Rs := List.getElem_mem hlt
    generalize Rs[k] = R at hR hRm
    have HR := zh hR
    have HRM := zh hRm
    have hrng := (HG.out R hRm).rng.le
    have hlast := (HG.out R hRm).ads (a := zC R) (zaG.2 ⟨(HG.out R hRm).rng.l6, hrng, Nat.le_refl _⟩)
    have hc : ∀ c, c < 9 → wr.cell? ⟨g, k * 9 + c, none⟩ = (spanL R)[c]? := fun c hc => (hr.out.own.cellAt (k * 9 + c) (by omega)).trans (yZ _ _ _ _ hR hc)
    have hcnt : cntR R = (zC R).n - (zB R).n + 1 - if inR R (zE R) then 1 else 0 := rfl
    have htk := ziF Rs k R hR
    have hhas := zeJ R.a (zB R) (zC R) (zE R) (zE R) R.free
    have q0 : wr.cell? ⟨g, k * 9, none⟩ = some (.bool R.a.six) := hc 0 (by decide)
    have q1 : wr.cell? ⟨g, k * 9 + 1, none⟩ = some (.int .u32 R.a.n) := hc 1 (by decide)
    have q2 : wr.cell? ⟨g, k * 9 + 2, none⟩ = some (.int .i64 R.free) := hc 2 (by decide)
    have q3 : wr.cell? ⟨g, k * 9 + 3, none⟩ = some (.bool (zB R).six) := hc 3 (by decide)
    have q4 : wr.cell? ⟨g, k * 9 + 4, none⟩ = some (.int .u32 (zB R).n) := hc 4 (by decide)
    have q5 : wr.cell? ⟨g, k * 9 + 5, none⟩ = some (.bool (zC R).six) := hc 5 (by decide)
    have q6 : wr.cell? ⟨g, k * 9 + 6, none⟩ = some (.int .u32 (zC R).n) := hc 6 (by decide)
    have q7 : wr.cell? ⟨g, k * 9 + 7, none⟩ = some (.bool (zE R).six) := hc 7 (by decide)
    have q8 : wr.cell? ⟨g, k * 9 + 8, none⟩ = some (.int .u32 (zE R).n) := hc 8 (by decide)
    have gz : g < wr.heap.size := World.block_lt_of_cell? wr _ q0
    have hgt : 1000 < (zC R).n - (zB R).n → sizeZ Rs = -1 := zeX hRm
    have hl32 : (zC R).n < 4294967296 := by unfold Ad.ok at hlast; split at hlast <;> omega
    have hin : hasB R.a (zB R) (zC R) (zE R) = inR R (zE R) := rfl
    rw [hin] at hhas
    generalize inR R (zE R) = gb at hhas hcnt
    unfold spanv adv at hhas
    obtain ⟨L, hL⟩ : ∃ L, L = (zC R).n := ⟨_, rfl⟩
    obtain ⟨S, hS⟩ : ∃ S, S = (zB R).n := ⟨_, rfl⟩
    rw [← hL] at q6 hl32 hgt hcnt hrng
    rw [← hS] at q4 hgt hcnt hrng
    rw [← hL, ← hS] at hhas
    have HLS := zh (And.intro hL hS)
    clear hL hS
    obtain ⟨D, hD⟩ : ∃ D, D = L - S := ⟨_, rfl⟩
    have hw1 : IntKind.u32.wrap ((L : Int) - (S : Int)) = (D : Int) := by rw [IntKind.wrap_u32]; omega
    have hw2 : IntKind.i64.wrap (D : Int) = (D : Int) := wr64 _ (by omega) (by omega)
    rw [← hD] at hgt hcnt
    have HD := zh hD
    clear hD
    have HHAS := zh hhas
    have HGT := zh hgt
    have HCNT := zh hcnt
    have HTK := zh htk
    clear hc hlast hin hhas hgt hcnt htk hR hRm
    by_cases hbig : 1000 < D
    ·have tb : decide ((1000 : Int) < D) = true := decide_eq_true (by omega)
     have HZ := zh (HGT.out hbig)
     go_wp2_with fail
     go_ret
     exact ⟨by rw [HZ.out]; rfl, hr.out.below.alloc hr.out.below.size _⟩
    ·have tb : decide ((1000 : Int) < D) = false := decide_eq_false (by omega)
     have hw3 : IntKind.i64.wrap ((sumR (Rs.take k) : Int) + (D : Int)) = ((sumR (Rs.take k) + D : Nat) : Int) := by rw [wr64 _ (by omega) (by omega)]; omega
     have hw4 : IntKind.i64.wrap (((sumR (Rs.take k) + D : Nat) : Int) + 1) = ((sumR (Rs.take k) + D + 1 : Nat) : Int) := by rw [wr64 _ (by omega) (by omega)]; omega
     have hw5 : IntKind.i64.wrap (((sumR (Rs.take k) + D + 1 : Nat) : Int) - 1) = ((sumR (Rs.take k) + D : Nat) : Int) := by rw [wr64 _ (by omega) (by omega)]; omega
     have HALL := zh (show ∀ (j : Nat) (Q : RIn), j < k + 1 → Rs[j]? = some Q → (zC Q).n - (zB Q).n ≤ 1000 from fun j Q hj hQ => by
      by_cases hjk : j = k
      ·subst hjk
       rw [HR.out] at hQ
       cases hQ
       obtain ⟨e1, e2⟩ := HLS.out
       have e3 := HD.out
       omega
      ·exact hr.out.all j Q (by omega) hQ)
     obtain ⟨T, hT⟩ : ∃ T, T = sumR (Rs.take k) := ⟨_, rfl⟩
     rw [← hT] at hw3 hw4 hw5 hs ⊢
     have HTT := zh hT
     clear hT
     go_wp2_with fail
     refine (HHAS.out _).mono ?_
     rintro e w3 ⟨rfl, hb3⟩
     have hba := below_tr ((Below.refl wr.heap.size wr).alloc (Nat.le_refl _) _) hb3
     have HO3 := zh (zbM hr.out.own hba)
     have HB3 := zh (below_tr hr.out.below hba)
     clear hb3 hba q0 q1 q2 q3 q4 q5 q6 q7 q8 HHAS
     cases gb with
     | true =>
      go_wp2_with fail
      go_roundw
      case rel =>
       refine ⟨k + 1, by simp, by omega, ?_, ?_, zh ⟨HO3.out, HB3.out, HALL.out⟩⟩
       ·rw [HTK.out, HCNT.out, ← HTT.out]
        simp
       ·rw [HTK.out, HCNT.out, ← HTT.out]
        simp
        omega
      case measure => simp [intOf]; omega
     | false =>
      go_wp2_with fail
      go_roundw
      case rel =>
       refine ⟨k + 1, by simp, by omega, ?_, ?_, zh ⟨HO3.out, HB3.out, HALL.out⟩⟩
       ·rw [HTK.out, HCNT.out, ← HTT.out]
        simp
        omega
       ·rw [HTK.out, HCNT.out, ← HTT.out]
        simp
        omega
      case measure => simp [intOf]; omega
   ·obtain rfl : k = Rs.length := by omega
    have tk : decide ((Rs.length : Int) < Rs.length) = false := decide_eq_false (by omega)
    rw [List.take_length] at hs ⊢
    have hz := ziH HSET.out (fun R hR => by
     obtain ⟨j, hj⟩ := List.getElem?_of_mem hR
     exact hr.out.all j R (List.getElem?_eq_some_iff.1 hj).1 hj)
    by_cases h1000 : sumR Rs ≤ 1000
    ·have t0 : decide ((1000 : Int) < sumR Rs) = false := decide_eq_false (by omega)
     rw [if_pos h1000] at hz
     have HZ := zh hz
     clear hz h1000
     go_wp2_with fail
     go_ret
     exact ⟨by rw [HZ.out]; rfl, hr.out.below⟩
    ·have t0 : decide ((1000 : Int) < sumR Rs) = true := decide_eq_true (by omega)
     rw [if_neg h1000] at hz
     have HZ := zh hz
     clear hz h1000
     go_wp2_with fail
     go_ret
     exact ⟨by rw [HZ.out]; rfl, hr.out.below⟩
def WordL (l : List UInt8) : Prop := 1 ≤ l.length ∧ l.length ≤ 8 ∧ ∀ b ∈ l, 97 ≤ b.toNat ∧ b.toNat ≤ 122
def zkP (s : ByteArray) (w : World) (e : Ending) (w' : World) : Prop := ∃ ok : Bool, e = .returned (.bool ok) ∧ (ok = true → WordL (bl s)) ∧ w = w'
theorem zcK (s : ByteArray) (w : World) (hs : s.size ≤ 9223372036854775807) : Calls Tryz.prog 59 #[.string s] w (zkP s w) := by
 go_enter Tryz.func59, Tryz.ntmps59
 go_wp2
 go_loop [3] (fun i => ∃ k : Nat, k ≤ s.size ∧ i = .int .i64 k ∧ Hid (∀ b ∈ (bl s).take k, 97 ≤ b.toNat ∧ b.toNat ≤ 122)) (fun i => s.size - (intOf i).toNat)
 case atStart => exact ⟨0, Nat.zero_le _, rfl, zh (fun b hb => by simp at hb)⟩
 case round =>
  obtain ⟨k, hk, rfl, hall⟩ := hrel
  by_cases hlt : k < s.size
  ·have HTS := zh (bl_take s k hlt)
   by_cases c1 : (s[k].toNat : Int) < 97
   ·go_wp2
    go_ret
    exact ⟨false, rfl, (fun h => by cases h), rfl⟩
   ·by_cases c2 : 122 < (s[k].toNat : Int)
    ·go_wp2
     go_ret
     exact ⟨false, rfl, (fun h => by cases h), rfl⟩
    ·go_wp2
     go_round
     case rel => exact ⟨k + 1, by omega, by go_num, zh (fun b hb => by
      rw [HTS.out] at hb
      rcases List.mem_append.1 hb with hb | hb
      ·exact hall.out b hb
      ·obtain rfl := List.mem_singleton.1 hb
       omega)⟩
     case measure => simp [intOf]; omega
  ·obtain rfl : k = s.size := by omega
   have HA := zh (show ∀ b ∈ bl s, 97 ≤ b.toNat ∧ b.toNat ≤ 122 from fun b hb => hall.out b (by rw [List.take_of_length_le (by rw [bl_length]; exact Nat.le_refl _)]; exact hb))
   by_cases c1 : 1 ≤ (s.size : Int)
   ·by_cases c2 : (s.size : Int) ≤ 8
    ·go_wp2
     go_ret
     exact ⟨true, by simp, (fun _ => ⟨by rw [bl_length]; omega, by rw [bl_length]; omega, HA.out⟩), rfl⟩
    ·go_wp2
     go_ret
     exact ⟨false, by simp, (fun h => by cases h), rfl⟩
   ·go_wp2
    go_ret
    exact ⟨false, by simp, (fun h => by cases h), rfl⟩
structure OpT where
 kind : Int
 id : ByteArray
 at_ : ByteArray
 asked : ByteArray
def OpT.fits (x : OpT) : Prop := x.id.size ≤ 2147483647 ∧ x.at_.size ≤ 2147483647 ∧ x.asked.size ≤ 2147483647
def OpsT (w : World) (ao : Option Addr) (xs : List OpT) : Prop :=
 ∀ (i : Nat) (x : OpT), xs[i]? = some x → ∃ b off, ao = some ⟨b, off, none⟩ ∧ b < w.heap.size ∧ w.cell? ⟨b, off + i * 4, none⟩ = some (.int .i64 x.kind) ∧ w.cell? ⟨b, off + i * 4 + 1, none⟩ = some (.string x.id) ∧ w.cell? ⟨b, off + i * 4 + 2, none⟩ = some (.string x.at_) ∧ w.cell? ⟨b, off + i * 4 + 3, none⟩ = some (.string x.asked)
theorem OpsT.on {w w' : World} {ao : Option Addr} {xs : List OpT} (h : OpsT w ao xs) (hb : Below w.heap.size w w') : OpsT w' ao xs := by
 intro i x hx
 obtain ⟨b, off, e, hlt, c0, c1, c2, c3⟩ := h i x hx
 exact ⟨b, off, e, Nat.lt_of_lt_of_le hlt hb.size, (hb.cell hlt).trans c0, (hb.cell hlt).trans c1, (hb.cell hlt).trans c2, (hb.cell hlt).trans c3⟩
structure OpR (x : OpT) (o : OpIn) : Prop where
 k : x.kind = o.kind
 i : x.id = o.id
 a : x.at_ = o.at_
 s : x.asked = o.asked
 fit : OpFit o
def OpAll (xs : List OpT) (os : List OpIn) : Prop := os.length = xs.length ∧ ∀ (j : Nat) (x : OpT), xs[j]? = some x → ∃ o, os[j]? = some o ∧ OpR x o
theorem zkQ (xs : List OpT) (h : ∀ (j : Nat) (x : OpT), xs[j]? = some x → ∃ o, OpR x o) : ∃ os, OpAll xs os := by
 induction xs with
 | nil => exact ⟨[], rfl, fun j x hx => by cases hx⟩
 | cons x xs ih =>
  obtain ⟨R, hR⟩ := h 0 x rfl
  obtain ⟨Rs, hl, hRs⟩ := ih (fun j y hy => h (j + 1) y hy)
  refine ⟨R :: Rs, by simp [hl], fun j y hy => ?_⟩
  cases j with
  | zero =>
   obtain rfl : x = y := (by simpa using hy)
   exact ⟨R, rfl, hR⟩
  | succ j => exact hRs j y hy
theorem OpsT.toV {w : World} {ao : Option Addr} {xs : List OpT} {os : List OpIn} (h : OpsT w ao xs) (ha : OpAll xs os) : OpsV w ao os := by
 intro i o ho
 have hil : i < xs.length := by have := (List.getElem?_eq_some_iff.1 ho).1; have := ha.1; omega
 obtain ⟨o', h1, h2⟩ := ha.2 i xs[i] (List.getElem?_eq_getElem hil)
 rw [ho] at h1
 cases h1
 obtain ⟨b, off, e, hlt, c0, c1, c2, c3⟩ := h i _ (List.getElem?_eq_getElem hil)
 rw [h2.k] at c0
 rw [h2.i] at c1
 rw [h2.a] at c2
 rw [h2.s] at c3
 exact ⟨b, off, e, hlt, c0, c1, c2, c3⟩
theorem OpAll.fit {xs : List OpT} {os : List OpIn} (h : OpAll xs os) : ∀ o ∈ os, OpFit o := by
 intro o ho
 obtain ⟨i, hi⟩ := List.getElem?_of_mem ho
 have hil : i < xs.length := by have := (List.getElem?_eq_some_iff.1 hi).1; have := h.1; omega
 obtain ⟨o', h1, h2⟩ := h.2 i xs[i] (List.getElem?_eq_getElem hil)
 rw [hi] at h1
 cases h1
 exact h2.fit
theorem zeC {s : ByteArray} (h : WordL (bl s)) : s.size ≤ 64 := by
 have := h.2.1
 rw [bl_length] at this
 omega
theorem xI {l : List UInt8} (h : WordL l) : 32 ∉ l := fun hm => by
 have := h.2.2 32 hm
 revert this
 decide
theorem xJ {s : ByteArray} (h : s.toList.isEmpty = true) : s = ⟨#[]⟩ := by
 rw [Lib.toList_data, List.isEmpty_iff] at h
 exact ByteArray.ext (Array.toList_inj.1 h)
theorem zaH {s : ByteArray} {a : Ad} (h : readL (bl s) = some a) : a.ok ∧ s.size ≤ 64 ∧ s.toList.isEmpty = false := by
 have hl := addr_length h
 refine ⟨readL_ok h, by omega, ?_⟩
 rw [Bool.eq_false_iff]
 intro e
 rw [xJ e, show readL (bl ⟨#[]⟩) = none by decide +kernel] at h
 cases h
theorem zmV (x : OpT) (h0 : ¬ x.kind < 0) (h2 : ¬ 2 < x.kind) (h3 : WordL (bl x.id)) (h4 : WordL (bl x.at_)) (h5 : x.asked.toList.isEmpty = false → isAddr (bl x.asked) = true) : ∃ o, OpR x o := by
 obtain ⟨kind, id, at_, asked⟩ := x
 simp only at h0 h2 h3 h4 h5
 obtain ⟨k, rfl⟩ : ∃ k : Nat, kind = k := ⟨kind.toNat, by omega⟩
 have hs1 := zeC h3
 have hs2 := zeC h4
 cases he : asked.toList.isEmpty with
 | true =>
  have := xJ he
  subst this
  exact ⟨⟨k, id, at_, ⟨#[]⟩, none⟩, rfl, rfl, rfl, rfl, ⟨⟨by show k ≤ 2; omega, fun _ => rfl, (fun a h => by cases h)⟩, hs1, hs2, Nat.zero_le _, xI h3, xI h4⟩⟩
 | false =>
  have h6 := h5 he
  unfold isAddr at h6
  obtain ⟨a, ha⟩ := Option.isSome_iff_exists.1 h6
  obtain ⟨a1, a2, a3⟩ := zaH ha
  exact ⟨⟨k, id, at_, asked, some a⟩, rfl, rfl, rfl, rfl, ⟨⟨by show k ≤ 2; omega, (fun h => by cases h), (fun b h => by cases h; exact ⟨ha, a1, a2, a3⟩)⟩, hs1, hs2, a2, xI h3, xI h4⟩⟩
def zkR (w : World) (xs : List OpT) (e : Ending) (w' : World) : Prop :=
 ∃ ok : Bool, e = .returned (.bool ok) ∧ (ok = true → xs.length ≤ 60 ∧ ∃ os, OpAll xs os) ∧ Below w.heap.size w w'
theorem zgM (ao : Option Addr) (cap : Nat) (xs : List OpT) (w : World) (h : OpsT w ao xs) (hf : ∀ (j : Nat) (x : OpT), xs[j]? = some x → x.fits) (hn : xs.length ≤ 2147483647) :
  Calls Tryz.prog 33 #[.slice ao xs.length cap] w (zkR w xs) := by
 have H := zh h
 have HF := zh hf
 clear h hf
 go_enter Tryz.func33, Tryz.ntmps33
 go_wp2_with fail
 go_loopw [7] (fun i wr => ∃ k : Nat, i = .int .i64 k ∧ k ≤ xs.length ∧ Hid ((∀ (j : Nat) (x : OpT), j < k → xs[j]? = some x → ∃ o, OpR x o) ∧ Below w.heap.size w wr)) (fun i _ => xs.length - (intOf i).toNat)
 case atStart => exact ⟨0, rfl, by omega, zh ⟨fun j x hj => absurd hj (by omega), Below.refl _ _⟩⟩
 case round =>
  obtain ⟨k, rfl, hk, hr⟩ := hrel
  by_cases hlt : k < xs.length
  ·have tk : decide ((k : Int) < xs.length) = true := decide_eq_true (by omega)
   have hx : xs[k]? = some xs[k] := List.getElem?_eq_getElem hlt
   obtain ⟨b, off, rfl, hbl, c0, c1, c2, c3⟩ := H.out.on hr.out.2 k _ hx
   have HX := zh hx
   obtain ⟨z1, z2, z3⟩ := HF.out k _ hx
   clear hx
   generalize xs[k] = x at *
   have HOR := zh (zmV x)
   obtain ⟨kind, id, at_, asked⟩ := x
   simp only at c0 c1 c2 c3 z1 z2 z3
   have HBA := zh (hr.out.2.alloc hr.out.2.size (.cells #[.int .i64 kind, .string id, .string at_, .string asked] 45))
   by_cases k0 : kind < 0
   ·have t0 : decide (kind < 0) = true := decide_eq_true k0
    clear k0
    go_wp2_with fail
    go_ret
    exact ⟨false, rfl, (fun h => by cases h), HBA.out⟩
   have t0 : decide (kind < 0) = false := decide_eq_false k0
   by_cases k2 : 2 < kind
   ·have t2 : decide (2 < kind) = true := decide_eq_true k2
    clear k0 k2
    go_wp2_with fail
    go_ret
    exact ⟨false, rfl, (fun h => by cases h), HBA.out⟩
   have t2 : decide (2 < kind) = false := decide_eq_false k2
   have HK0 := zh k0
   have HK2 := zh k2
   clear k0 k2
   go_wp2_with fail
   refine (zcK id _ (by omega)).mono ?_
   rintro e w2 ⟨ok1, rfl, hw1, rfl⟩
   have HW1 := zh hw1
   clear hw1
   cases ok1 with
   | false =>
    go_wp2_with fail
    go_ret
    exact ⟨false, rfl, (fun h => by cases h), HBA.out⟩
   | true =>
    go_wp2_with fail
    refine (zcK at_ _ (by omega)).mono ?_
    rintro e w2 ⟨ok2, rfl, hw2, rfl⟩
    have HW2 := zh hw2
    clear hw2
    cases ok2 with
    | false =>
     go_wp2_with fail
     go_ret
     exact ⟨false, rfl, (fun h => by cases h), HBA.out⟩
    | true =>
     cases he : asked.toList.isEmpty with
     | true =>
      have HE := zh he
      go_wp2_with fail
      go_roundw
      case rel =>
       refine ⟨k + 1, by simp, by omega, zh ⟨fun j y hj hy => ?_, HBA.out⟩⟩
       by_cases hjk : j = k
       ·subst hjk
        rw [HX.out] at hy
        cases hy
        exact HOR.out (by have := HK0.out; omega) (by have := HK2.out; omega) (HW1.out (by trivial)) (HW2.out (by trivial)) (fun h => by rw [HE.out] at h; cases h)
       ·exact hr.out.1 j y (by omega) hy
      case measure => simp [intOf]; omega
     | false =>
      have HE := zh he
      go_wp2_with fail
      refine (isAddress_any asked _ z3).mono ?_
      rintro e w3 ⟨rfl, hb3⟩
      have HB3 := zh (below_tr HBA.out hb3)
      clear hb3 c0 c1 c2 c3
      cases hq : isAddr (bl asked) with
      | false =>
       go_wp2_with fail
       go_ret
       exact ⟨false, rfl, (fun h => by cases h), HB3.out⟩
      | true =>
       have HQ := zh hq
       clear hq
       go_wp2_with fail
       go_roundw
       case rel =>
        refine ⟨k + 1, by simp, by omega, zh ⟨fun j y hj hy => ?_, HB3.out⟩⟩
        by_cases hjk : j = k
        ·subst hjk
         rw [HX.out] at hy
         cases hy
         exact HOR.out (by have := HK0.out; omega) (by have := HK2.out; omega) (HW1.out (by trivial)) (HW2.out (by trivial)) (fun _ => HQ.out)
        ·exact hr.out.1 j y (by omega) hy
       case measure => simp [intOf]; omega
  ·have tk : decide ((k : Int) < xs.length) = false := decide_eq_false (by omega)
   by_cases h4 : xs.length ≤ 60
   ·have t4 : decide ((xs.length : Int) ≤ 60) = true := decide_eq_true (by omega)
    go_wp2_with fail
    go_ret
    exact ⟨true, rfl, (fun _ => ⟨h4, zkQ xs fun j x hx => hr.out.1 j x (by have := (List.getElem?_eq_some_iff.1 hx).1; omega) hx⟩), hr.out.2⟩
   ·have t4 : decide ((xs.length : Int) ≤ 60) = false := decide_eq_false (by omega)
    go_wp2_with fail
    go_ret
    exact ⟨false, rfl, (fun h => by cases h), hr.out.2⟩
end Go.Proofs.YtnehofekgnbelaaGreatDoor

/-
  Texts put together: Cn1, Cn2, 
-/
import Derived.Test.YtnehofekgnbelaaGreatDoorM22
import Derived.Test.YtnehofekgnbelaaGreatDoorM19
import Derived.Test.YtnehofekgnbelaaGreatDoorY25
import Derived.BigQuiet
namespace Go.Proofs.YtnehofekgnbelaaGreatDoor
open Go.RowKit
set_option linter.unusedVariables false
set_option maxRecDepth 100000
set_option maxHeartbeats 1000000
def zB (R : RIn) : Ad := R.o1.getD R.a.up
def zC (R : RIn) : Ad := R.o2.getD (R.a.endOf R.free)
def zE (R : RIn) : Ad := R.o3.getD R.a.up
def okR (R : RIn) : Bool := canonP R.a R.free R.o1 R.o2
def CanIn (w0 : World) (B : Nat) (R : RIn) (w' : World) : Prop :=
 ∃ v0 v1 vi vm v4, RgW w0 B 0 v0 v1 vi vm v4 w' ∧ Five v0 v1 vi vm v4 ∧ (okR R = true → Canon w0 B 0 v0 v1 vi vm v4 R.a R.free true true true (some (zB R)) (some (zC R)) (some (zE R)) w')
theorem zK {w : World} {v : Value} {xs : List Value} (h : SlAt w v xs) : ∃ b n c, v = .slice b n c := by
 obtain ⟨ao, cap, rfl, _⟩ := h
 exact ⟨_, _, _, rfl⟩
structure CanPre (w : World) (B : Nat) (v0 v1 vi vm v4 : Value) (R : RIn) : Prop where
 rg : RgW w B 0 v0 v1 vi vm v4 w
 s : OptAt w v0 R.o1
 e : OptAt w v1 R.o2
 g : OptAt w v4 R.o3
 i : LongAt w vi R.a
 m : IPAt w vm (R.a.mask R.free)
 oa : R.a.ok
 room : R.free ≤ R.a.room
 k1 : ∀ s, R.o1 = some s → s.ok
 k2 : ∀ s, R.o2 = some s → s.ok
 k3 : ∀ s, R.o3 = some s → s.ok
theorem CanPre.run {w : World} {B : Nat} {v0 v1 vi vm v4 : Value} {R : RIn} (h : CanPre w B v0 v1 vi vm v4 R) :
  Calls Tryz.prog 52 #[.pointer (some ⟨B, 0, none⟩)] w (fun e w' => ((okR R = true ∧ e = .returned .nilIface) ∨ (okR R = false ∧ ∃ b, e = .returned (.iface 203 (.pointer (some ⟨b, 0, none⟩))))) ∧ CanIn w B R w') := by
 refine (canonicalize_any B 0 v0 v1 vi vm v4 R.a R.free R.o1 R.o2 R.o3 w h.rg h.s h.e h.g h.i h.m h.oa h.room h.k1 h.k2 h.k3).mono ?_
 rintro e w' (⟨hc, he, u0, u1, ui, um, u4, hC⟩ | ⟨hc, he, u0, u1, ui, um, u4, hC, h5⟩)
 ·exact ⟨.inl ⟨hc, he⟩, u0, u1, ui, um, u4, hC.rg, ⟨hC.s.slice, hC.e.slice, zK hC.net.1, zK hC.mask.1, hC.g.slice⟩, fun _ => hC⟩
 ·exact ⟨.inr ⟨hc, he⟩, u0, u1, ui, um, u4, hC, h5, fun h => absurd (h.symm.trans hc) (by decide)⟩
theorem RgAt.set {w : World} {B o : Nat} {v0 v1 vi vm v4 z : Value} {p : Addr} (h : RgAt w B o v0 v1 vi vm v4) (hp : p.block ≠ B) : RgAt (w.setCell p z) B o v0 v1 vi vm v4 := by
 have hne : ∀ k, (⟨B, k, none⟩ : Addr) ≠ p := fun k e => hp (by rw [← e])
 refine ⟨?_, ?_, ?_, ?_, ?_⟩
 ·rw [World.cell?_setCell_other _ _ _ _ (by first | exact hne _ | exact (hne _).symm)]; exact h.c0
 ·rw [World.cell?_setCell_other _ _ _ _ (by first | exact hne _ | exact (hne _).symm)]; exact h.c1
 ·rw [World.cell?_setCell_other _ _ _ _ (by first | exact hne _ | exact (hne _).symm)]; exact h.c2
 ·rw [World.cell?_setCell_other _ _ _ _ (by first | exact hne _ | exact (hne _).symm)]; exact h.c3
 ·rw [World.cell?_setCell_other _ _ _ _ (by first | exact hne _ | exact (hne _).symm)]; exact h.c4
theorem Held.set {w : World} {B o : Nat} {v0 v1 vi vm v4 z : Value} {a : Ad} {free : Nat} {s e : Ad} {p : Addr} (h : Held w B o v0 v1 vi vm v4 a free s e) (hp : p.block ≠ B) (hn : ∀ x : UInt8, w.cell? p ≠ some (u8v x)) : Held (w.setCell p z) B o v0 v1 vi vm v4 a free s e :=
 ⟨h.at_.set hp, IPAt.set h.hs hn, IPAt.set h.he hn, IPAt.set h.net hn, IPAt.set h.mask hn, h.oa, h.os, h.oe, h.room⟩
theorem yB {R : RIn} (oa : R.a.ok) (room : R.free ≤ R.a.room) (k1 : ∀ s, R.o1 = some s → s.ok) (k2 : ∀ s, R.o2 = some s → s.ok) (h : okR R = true) : (zB R).ok ∧ (zC R).ok := by
 unfold okR canonP at h
 simp only [Bool.and_eq_true, decide_eq_true_eq] at h
 obtain ⟨⟨⟨h2, hn⟩, _⟩, _⟩ := h
 refine ⟨?_, ?_⟩
 ·unfold zB
  cases ho : R.o1 with
  | none => exact up_ok oa room h2 hn
  | some s => exact k1 s ho
 ·unfold zC
  cases ho : R.o2 with
  | none => exact endOf_ok oa room
  | some s => exact k2 s ho
theorem CanIn.held {w0 w : World} {B : Nat} {R : RIn} (h : CanIn w0 B R w) (oa : R.a.ok) (room : R.free ≤ R.a.room) (k1 : ∀ s, R.o1 = some s → s.ok) (k2 : ∀ s, R.o2 = some s → s.ok) :
  ∃ v0 v1 vi vm v4, RgAt w B 0 v0 v1 vi vm v4 ∧ Five v0 v1 vi vm v4 ∧ (okR R = true → Held w B 0 v0 v1 vi vm v4 R.a R.free (zB R) (zC R) ∧ BriefAt w v4 (zE R)) := by
 obtain ⟨v0, v1, vi, vm, v4, hr, h5, hc⟩ := h
 refine ⟨v0, v1, vi, vm, v4, hr.at_, h5, fun hok => ?_⟩
 have hC := hc hok
 have hk := yB oa room k1 k2 hok
 exact ⟨⟨hC.rg.at_, hC.s, hC.e, hC.net, hC.mask, oa, hk.1, hk.2, room⟩, hC.g⟩
theorem CanIn.grown {w0 w : World} {B : Nat} {R : RIn} (h : CanIn w0 B R w) : w0.grownBy w (some B) := by
 obtain ⟨v0, v1, vi, vm, v4, hr, h5, hc⟩ := h
 exact hr.rest
theorem CanPre.below {w w' : World} {B : Nat} {v0 v1 vi vm v4 : Value} {R : RIn} (h : CanPre w B v0 v1 vi vm v4 R) (hb : Below w.heap.size w w') : CanPre w' B v0 v1 vi vm v4 R :=
 ⟨⟨h.rg.at_.keep hb, (hb.frozen h.rg.at_.lt).trans h.rg.f0, (hb.frozen h.rg.at_.lt).trans h.rg.f1, (hb.frozen h.rg.at_.lt).trans h.rg.f2, (hb.frozen h.rg.at_.lt).trans h.rg.f4, World.grownBy.refl _ _, (fun _ _ => rfl), (fun _ => rfl)⟩, h.s.keep hb, h.e.keep hb, h.g.keep hb, IPAt.keep h.i hb, IPAt.keep h.m hb, h.oa, h.room, h.k1, h.k2, h.k3⟩
structure ROk (R : RIn) : Prop where
 oa : R.a.ok
 room : R.free ≤ R.a.room
 k1 : ∀ s, R.o1 = some s → s.ok
 k2 : ∀ s, R.o2 = some s → s.ok
 k3 : ∀ s, R.o3 = some s → s.ok
structure HeldV (w : World) (v0 v1 vi vm v4 : Value) (R : RIn) : Prop where
 hs : BriefAt w v0 (zB R)
 he : BriefAt w v1 (zC R)
 net : BriefAt w vi R.a
 mask : IPAt w vm (R.a.mask R.free)
 hg : BriefAt w v4 (zE R)
theorem HeldV.on {w w' : World} {v0 v1 vi vm v4 : Value} {R : RIn} (h : HeldV w v0 v1 vi vm v4 R) (hb : Below w.heap.size w w') : HeldV w' v0 v1 vi vm v4 R :=
 ⟨BriefAt.keep h.hs hb, BriefAt.keep h.he hb, BriefAt.keep h.net hb, IPAt.keep h.mask hb, BriefAt.keep h.hg hb⟩
theorem zmL {w : World} {B : Nat} {v0 v1 vi vm v4 : Value} (h : w.heap[B]? = some (.cells #[v0, v1, vi, vm, v4] 72 (0, 0))) : RgAt w B 0 v0 v1 vi vm v4 :=
 ⟨cell_of_row w B 0 _ _ _ h, cell_of_row w B 1 _ _ _ h, cell_of_row w B 2 _ _ _ h, cell_of_row w B 3 _ _ _ h, cell_of_row w B 4 _ _ _ h⟩
theorem HeldV.held {w : World} {B : Nat} {v0 v1 vi vm v4 : Value} {R : RIn} (h : HeldV w v0 v1 vi vm v4 R) (hr : w.heap[B]? = some (.cells #[v0, v1, vi, vm, v4] 72 (0, 0))) (hk : ROk R) (hok : okR R = true) : Held w B 0 v0 v1 vi vm v4 R.a R.free (zB R) (zC R) :=
 ⟨zmL hr, h.hs, h.he, h.net, h.mask, hk.oa, (yB hk.oa hk.room hk.k1 hk.k2 hok).1, (yB hk.oa hk.room hk.k1 hk.k2 hok).2, hk.room⟩
def contR (R : RIn) (b : Ad) : Bool := cont R.a R.free (some (zB R)) (some (zC R)) b
def ovrR (R Q : RIn) : Bool := ovr R.a R.free (zB R) (zC R) Q.a Q.free (zB Q) (zC Q)
def spanv (net : Ad) (free : Int) (st en gw : Ad) : Value := .agg #[.bool net.six, .int .u32 net.n, .int .i64 free, .bool st.six, .int .u32 st.n, .bool en.six, .int .u32 en.n, .bool gw.six, .int .u32 gw.n]
def hasB (net st en a : Ad) : Bool := (a.six == net.six) && decide (st.n ≤ a.n) && decide (a.n ≤ en.n)
def meetB (net st en net' st' en' : Ad) : Bool := (net.six == net'.six) && decide (st.n ≤ en'.n) && decide (st'.n ≤ en.n)
theorem zhA (ns ax x y : Bool) (ss es gs : Bool) (nn sn en gn an : Nat) (free : Int) (w : World) (t1 : decide (sn ≤ an) = x) (t2 : decide (an ≤ en) = y) :
  Calls Tryz.prog 47 #[spanv ⟨ns, nn⟩ free ⟨ss, sn⟩ ⟨es, en⟩ ⟨gs, gn⟩, adv ⟨ax, an⟩] w (BelowPost w (.bool ((ax == ns) && x && y))) := by
 unfold spanv adv
 cases ns <;> cases ax <;> cases x <;> cases y
 all_goals first | have g1 := of_decide_eq_true t1 | have g1 := of_decide_eq_false t1
 all_goals first | have g2 := of_decide_eq_true t2 | have g2 := of_decide_eq_false t2
 all_goals
  go_enter Tryz.func47, Tryz.ntmps47
  go_wp2_with fail
 all_goals
  go_ret
 all_goals first | exact ⟨rfl, ((Below.refl w.heap.size w).alloc (Nat.le_refl _) _).alloc (by simp) _⟩ | exact ⟨by simp only [t1, t2]; rfl, ((Below.refl w.heap.size w).alloc (Nat.le_refl _) _).alloc (by simp) _⟩
theorem zeJ (net st en gw a : Ad) (free : Int) (w : World) :
  Calls Tryz.prog 47 #[spanv net free st en gw, adv a] w (BelowPost w (.bool (hasB net st en a))) :=
 zhA _ _ _ _ _ _ _ _ _ _ _ _ _ w rfl rfl
theorem zfU (ns ms x y : Bool) (ss es gs ts fs hs : Bool) (nn sn en gn mn tn fn hn : Nat) (free free' : Int) (w : World) (t1 : decide (sn ≤ fn) = x) (t2 : decide (tn ≤ en) = y) :
  Calls Tryz.prog 60 #[spanv ⟨ns, nn⟩ free ⟨ss, sn⟩ ⟨es, en⟩ ⟨gs, gn⟩, spanv ⟨ms, mn⟩ free' ⟨ts, tn⟩ ⟨fs, fn⟩ ⟨hs, hn⟩] w (BelowPost w (.bool ((ns == ms) && x && y))) := by
 unfold spanv
 cases ns <;> cases ms <;> cases x <;> cases y
 all_goals first | have g1 := of_decide_eq_true t1 | have g1 := of_decide_eq_false t1
 all_goals first | have g2 := of_decide_eq_true t2 | have g2 := of_decide_eq_false t2
 all_goals
  go_enter Tryz.func60, Tryz.ntmps60
  go_wp2_with fail
 all_goals
  go_ret
 all_goals first | exact ⟨rfl, ((Below.refl w.heap.size w).alloc (Nat.le_refl _) _).alloc (by simp) _⟩ | exact ⟨by simp only [t1, t2]; rfl, ((Below.refl w.heap.size w).alloc (Nat.le_refl _) _).alloc (by simp) _⟩
theorem zjK (net st en gw net' st' en' gw' : Ad) (free free' : Int) (w : World) :
  Calls Tryz.prog 60 #[spanv net free st en gw, spanv net' free' st' en' gw'] w (BelowPost w (.bool (meetB net st en net' st' en'))) :=
 zfU _ _ _ _ _ _ _ _ _ _ _ _ _ _ _ _ _ _ _ _ w rfl rfl
theorem yX (free : Nat) : ((2 ^ free : Nat) : Int) = 2 ^ free := by norm_cast
theorem zdC (free : Nat) (hf : free ≤ 32) : ((2 : Int) ^ free - 1) % 4294967296 = 2 ^ free - 1 := by
 have h1 : 0 < 2 ^ free := Nat.pow_pos (by decide)
 have h2 : 2 ^ free ≤ 2 ^ 32 := Nat.pow_le_pow_right (by decide) hf
 rw [← yX]
 omega
theorem zhB (x free : Nat) (hx : x % 2 ^ free = 0) (h1 : x < 4294967296) (hf : free ≤ 32) : bits .or .u32 (x : Int) (((2 : Int) ^ free - 1) % 4294967296) = ((x / 2 ^ free * 2 ^ free + (2 ^ free - 1) : Nat) : Int) := by
 have hp : 0 < 2 ^ free := Nat.pow_pos (by decide)
 have hp2 : 2 ^ free ≤ 2 ^ 32 := Nat.pow_le_pow_right (by decide) hf
 have hd : x / 2 ^ free * 2 ^ free = x := by have := Nat.div_add_mod x (2 ^ free); rw [hx, Nat.mul_comm] at this; omega
 rw [zdC free hf, hd, bits_join .u32 32 (by decide) w32 free x ((2 : Int) ^ free - 1) (by omega) (by rw [← yX]; omega) (by omega) (by rw [← yX free]; omega) (by rw [← yX free]; omega) (by rw [← yX free]; omega), ← yX]
 omega
theorem zfE (x free : Nat) (h1 : x < 4294967296) (hf : free ≤ 32) : bits .and .u32 (x : Int) (((2 : Int) ^ free - 1) % 4294967296) = ((x % 2 ^ free : Nat) : Int) := by
 rw [zdC free hf]
 have := bits_mask .u32 32 (by decide) w32 free (by omega) (x : Int) (by omega) (by omega)
 rw [this, ← yX]
 omega
theorem zjL (net st en gw : Ad) (free : Nat) (w : World) (ok : net.n < 4294967296) (hf : free ≤ 32) (hal : net.n % 2 ^ free = 0) :
  Calls Tryz.prog 48 #[spanv net free st en gw] w (BelowPost w (adv (net.last free))) := by
 obtain ⟨ns, nn⟩ := net
 obtain ⟨ss, sn⟩ := st
 obtain ⟨es, en⟩ := en
 obtain ⟨gs, gn⟩ := gw
 unfold spanv adv
 go_enter Tryz.func48, Tryz.ntmps48
 go_wp2_with fail
 go_region
 all_goals go_wp2_with fail
 all_goals refine bodyPost_ret (v := .agg #[.bool ns, .int .u32 ((nn / 2 ^ free * 2 ^ free + (2 ^ free - 1) : Nat) : Int)]) (by simp [results, Tryz.results48, go_sem]; rw [zhB nn free hal ok hf]; simp) rfl ⟨rfl, below_drewN (((Below.refl w.heap.size w).alloc (Nat.le_refl _) _).alloc (by simp) _) 1⟩
def yY (w : World) (g m : Nat) : Prop := ∀ (j : Nat) (x : UInt8), j < m → w.cell? ⟨g, j, none⟩ ≠ some (u8v x)
section
variable {w w' w0 : World} {v v0 v1 vi vm v4 u0 u1 ui um u4 : Value} {bs : List UInt8} {g i k n : Nat} {a : Ad} {o : Option Ad} {R : RIn}
theorem IPAt.turn (h : IPAt w v bs) (nb : yY w g (n * 5)) (hr : RgW w g (k * 5) u0 u1 ui um u4 w') (hk : k < n) : IPAt w' v bs := by
 obtain ⟨⟨ao, cap, hv, hl, hm, hn, hc⟩, hp⟩ := h
 refine ⟨⟨ao, cap, hv, hl, hm, hn, fun p hpp j u hu => ?_⟩, hp⟩
 have h1 := hc p hpp j u hu
 have hs := spot_none_of_cell h1
 by_cases e : (p.add j).block = g
 ·have he : p.add j = ⟨g, (p.add j).off, none⟩ := by rw [← e, ← hs]
  obtain ⟨x, rfl⟩ : ∃ x : UInt8, u = u8v x := by
   have := List.mem_of_getElem? hu
   simp only [ipv, List.mem_map] at this
   obtain ⟨x, _, rfl⟩ := this
   exact ⟨x, rfl⟩
  by_cases ho : (p.add j).off < n * 5
  ·exact absurd (he ▸ h1) (nb _ x ho)
  ·rw [he] at h1 ⊢
   rw [hr.far _ (.inr (by omega))]
   exact h1
 ·exact hr.rest.cell h1 fun h => e (Option.some.inj h)
theorem AdAt.turn (h : AdAt w v a) (nb : yY w g (n * 5)) (hr : RgW w g (k * 5) u0 u1 ui um u4 w') (hk : k < n) : AdAt w' v a := h.elim (fun h => .inl (IPAt.turn h nb hr hk)) (fun h => .inr (IPAt.turn h nb hr hk))
theorem OptAt.turn (h : OptAt w v o) (nb : yY w g (n * 5)) (hr : RgW w g (k * 5) u0 u1 ui um u4 w') (hk : k < n) : OptAt w' v o := by
 cases o with
 | none => exact h
 | some a => exact AdAt.turn h nb hr hk
def ElPre (w : World) (g i : Nat) (R : RIn) : Prop := ∃ v0 v1 vi vm v4, RgAt w g (i * 5) v0 v1 vi vm v4 ∧ OptAt w v0 R.o1 ∧ OptAt w v1 R.o2 ∧ OptAt w v4 R.o3 ∧ LongAt w vi R.a ∧ IPAt w vm (R.a.mask R.free)
def zbH (w : World) (g i : Nat) (R : RIn) : Prop := ∃ v0 v1 vi vm v4, RgAt w g (i * 5) v0 v1 vi vm v4 ∧ BriefAt w v0 (zB R) ∧ BriefAt w v1 (zC R) ∧ BriefAt w v4 (zE R) ∧ BriefAt w vi R.a ∧ IPAt w vm (R.a.mask R.free)
theorem ElPre.on (h : ElPre w g i R) (hb : Below w.heap.size w w') : ElPre w' g i R := by
 obtain ⟨v0, v1, vi, vm, v4, h1, h2, h3, h4, h5, h6⟩ := h
 exact ⟨v0, v1, vi, vm, v4, h1.keep hb, h2.keep hb, h3.keep hb, h4.keep hb, IPAt.keep h5 hb, IPAt.keep h6 hb⟩
theorem zbH.on (h : zbH w g i R) (hb : Below w.heap.size w w') : zbH w' g i R := by
 obtain ⟨v0, v1, vi, vm, v4, h1, h2, h3, h4, h5, h6⟩ := h
 exact ⟨v0, v1, vi, vm, v4, h1.keep hb, IPAt.keep h2 hb, IPAt.keep h3 hb, IPAt.keep h4 hb, IPAt.keep h5 hb, IPAt.keep h6 hb⟩
theorem RgW.beside (h : RgW w g (k * 5) u0 u1 ui um u4 w') (hne : i ≠ k) (ha : RgAt w g (i * 5) v0 v1 vi vm v4) : RgAt w' g (i * 5) v0 v1 vi vm v4 := by
 have hx : ∀ c, c < 5 → w'.cell? ⟨g, i * 5 + c, none⟩ = w.cell? ⟨g, i * 5 + c, none⟩ := fun c hc => h.far (i * 5 + c) (by omega)
 exact ⟨(hx 0 (by decide)).trans ha.c0, (hx 1 (by decide)).trans ha.c1, (hx 2 (by decide)).trans ha.c2, (hx 3 (by decide)).trans ha.c3, (hx 4 (by decide)).trans ha.c4⟩
theorem ElPre.turn (e : ElPre w g i R) (nb : yY w g (n * 5)) (h : RgW w g (k * 5) u0 u1 ui um u4 w') (hk : k < n) (hne : i ≠ k) : ElPre w' g i R := by
 obtain ⟨v0, v1, vi, vm, v4, h1, h2, h3, h4, h5, h6⟩ := e
 exact ⟨v0, v1, vi, vm, v4, h.beside hne h1, h2.turn nb h hk, h3.turn nb h hk, h4.turn nb h hk, IPAt.turn h5 nb h hk, IPAt.turn h6 nb h hk⟩
theorem zbH.turn (e : zbH w g i R) (nb : yY w g (n * 5)) (h : RgW w g (k * 5) u0 u1 ui um u4 w') (hk : k < n) (hne : i ≠ k) : zbH w' g i R := by
 obtain ⟨v0, v1, vi, vm, v4, h1, h2, h3, h4, h5, h6⟩ := e
 exact ⟨v0, v1, vi, vm, v4, h.beside hne h1, IPAt.turn h2 nb h hk, IPAt.turn h3 nb h hk, IPAt.turn h4 nb h hk, IPAt.turn h5 nb h hk, IPAt.turn h6 nb h hk⟩
theorem yY.turn {m : Nat} (nb : yY w g m) (h : RgW w g (k * 5) u0 u1 ui um u4 w') (h5 : Five u0 u1 ui um u4) : yY w' g m := by
 intro j x hjm
 obtain ⟨⟨_, _, _, e0⟩, ⟨_, _, _, e1⟩, ⟨_, _, _, ei⟩, ⟨_, _, _, em⟩, ⟨_, _, _, e4⟩⟩ := h5
 by_cases hj : j < k * 5 ∨ k * 5 + 4 < j
 ·rw [h.far j hj]; exact nb j x hjm
 ·obtain rfl | rfl | rfl | rfl | rfl : j = k * 5 ∨ j = k * 5 + 1 ∨ j = k * 5 + 2 ∨ j = k * 5 + 3 ∨ j = k * 5 + 4 := by omega
  ·rw [h.at_.c0, e0]; simp [u8v]
  ·rw [h.at_.c1, e1]; simp [u8v]
  ·rw [h.at_.c2, ei]; simp [u8v]
  ·rw [h.at_.c3, em]; simp [u8v]
  ·rw [h.at_.c4, e4]; simp [u8v]
end
structure SetM (w0 : World) (g : Nat) (Rs : List RIn) (k : Nat) (w : World) : Prop where
 nb : yY w g (Rs.length * 5)
 fz : ∀ j, w.frozen? ⟨g, j, none⟩ = false
 pre : ∀ i R, k ≤ i → Rs[i]? = some R → ElPre w g i R
 held : ∀ i R, i < k → Rs[i]? = some R → zbH w g i R
 grown : w0.grownBy w (some g)
 lt : g < w.heap.size
section
variable {w w' w0 : World} {v0 v1 vi vm v4 : Value} {g k : Nat} {R : RIn} {Rs : List RIn}
theorem SetM.on (h : SetM w0 g Rs k w) (hb : Below w.heap.size w w') : SetM w0 g Rs k w' :=
 ⟨fun j x hj => by rw [hb.cell h.lt]; exact h.nb j x hj, fun j => (hb.frozen h.lt).trans (h.fz j), fun i R hi hr => (h.pre i R hi hr).on hb, fun i R hi hr => (h.held i R hi hr).on hb,
  h.grown.andThen (row' := none) ⟨hb.os, hb.tape, hb.output, hb.size, fun k hk _ => hb.block k hk⟩ (fun j hj => by cases hj), Nat.lt_of_lt_of_le h.lt hb.size⟩
theorem SetM.call (h : SetM w0 g Rs k w) (hR : Rs[k]? = some R) (hk : ROk R) :
  Calls Tryz.prog 52 #[.pointer (some ⟨g, k * 5, none⟩)] w (fun e w' =>
   (okR R = true ∧ e = .returned .nilIface ∧ SetM w0 g Rs (k + 1) w') ∨ (okR R = false ∧ (∃ b, e = .returned (.iface 203 (.pointer (some ⟨b, 0, none⟩)))) ∧ w0.grownBy w' (some g))) := by
 obtain ⟨v0, v1, vi, vm, v4, h1, h2, h3, h4, h5, h6⟩ := h.pre k R (Nat.le_refl _) hR
 have hkn : k < Rs.length := (List.getElem?_eq_some_iff.1 hR).1
 have hrg : RgW w g (k * 5) v0 v1 vi vm v4 w := ⟨h1, h.fz _, h.fz _, h.fz _, h.fz _, World.grownBy.refl _ _, (fun _ _ => rfl), (fun _ => rfl)⟩
 refine (canonicalize_any g (k * 5) v0 v1 vi vm v4 R.a R.free R.o1 R.o2 R.o3 w hrg h2 h3 h4 h5 h6 hk.oa hk.room hk.k1 hk.k2 hk.k3).mono ?_
 rintro e w' (⟨hc, he, u0, u1, ui, um, u4, hC⟩ | ⟨hc, he, u0, u1, ui, um, u4, hC, h5⟩)
 ·refine .inl ⟨hc, he, ?_⟩
  have five : Five u0 u1 ui um u4 := ⟨hC.s.slice, hC.e.slice, zK hC.net.1, zK hC.mask.1, hC.g.slice⟩
  refine ⟨h.nb.turn hC.rg five, fun j => (hC.rg.froz j).trans (h.fz j), fun i Q hi hq => (h.pre i Q (by omega) hq).turn h.nb hC.rg hkn (by omega), fun i Q hi hq => ?_, h.grown.trans hC.rg.rest, Nat.lt_of_lt_of_le h.lt hC.rg.rest.size⟩
  by_cases e : i = k
  ·subst e
   rw [hR] at hq
   cases hq
   exact ⟨u0, u1, ui, um, u4, hC.rg.at_, hC.s, hC.e, hC.g, hC.net, hC.mask⟩
  ·exact (h.held i Q (by omega) hq).turn h.nb hC.rg hkn e
 ·exact .inr ⟨hc, he, h.grown.trans hC.rest⟩
end
end Go.Proofs.YtnehofekgnbelaaGreatDoor

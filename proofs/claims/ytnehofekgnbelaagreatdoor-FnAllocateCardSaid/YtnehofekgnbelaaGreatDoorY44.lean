/-
  Texts put together: Laid.
-/
import Derived.Test.YtnehofekgnbelaaGreatDoorM1
import Derived.ProofKit
import Derived.ChangeSame
import Derived.SliceStrings
import Derived.Test.YtnehofekgnbelaaGreatDoorCards
import Derived.Test.YtnehofekgnbelaaGreatDoorTie
import Derived.Deep.DeepHandedRow
import Derived.Deep.DeepWitnessRowRef
import Derived.Lib.LaidIn
namespace Go.Proofs.YtnehofekgnbelaaGreatDoor
open Go.RowKit Go.WideShapes Go.ChangeShapes
section
variable {H : Type} {enc : TypeId × Value → H} {P : Program}
theorem xZ (hl : laidOutB P = true) {W W' : World} (hb : Below W.heap.size W W') :
  ∀ (ts : List TypeId) (vs : List Value) (ds : List (DataW H)) (ps : List MemPlace), (∀ t ∈ ts, P.readableRec t = true ∧ t < P.types.size) → (∀ x ∈ ps, x.block < W.heap.size) →
   DataW.TrodAll enc P W 0 (fun _ => true) true ts vs ds ps → ∀ sp : Nat → Bool, (∀ x ∈ ps, sp x.block = true) → DataW.TrodAll enc P W' 0 sp true ts vs ds ps
 | [], [], [], _, _, _, h, _, _ => h
 | t :: ts, v :: vs, d :: ds, ps, ht, hlt, h, sp, hsp => by
  obtain ⟨p, q, h1, h2, rfl⟩ := h
  have hr := ht t (by simp)
  refine ⟨p, q, ?_, xZ hl hb ts vs ds q (fun t' h' => ht t' (by simp [h'])) (fun x hx => hlt x (by simp [hx])) h2 sp (fun x hx => hsp x (by simp [hx])), rfl⟩
  exact WideElems.Trod_stays hl hr.1 hr.2 h1 (fun x hx => hb.same (hlt x (by simp [hx]))) (fun x hx => hsp x (by simp [hx]))
 | [], [], _ :: _, _, _, _, h, _, _ => h.elim
 | [], _ :: _, _, _, _, _, h, _, _ => h.elim
 | _ :: _, [], _, _, _, _, h, _, _ => h.elim
 | _ :: _, _ :: _, [], _, _, _, h, _, _ => h.elim
theorem zkS {f : Func} {s : ChangeSpec} {W W' : World} {args : Array Value} {ds gs : List (DataW H)} {before : List MemPlace} {tb : TypeId}
  (hl : laidOutB P = true) (ht : ∀ t ∈ f.params.toList, P.readableRec t = true ∧ t < P.types.size) (hv : s.vars = [])
  (hW : DataW.Whole enc P f.params.toList s.vars false W args.toList ds gs before) (hb : Below W.heap.size W W')
  (hr : (s.fn H (ds ++ gs)).results = [.lit (.bool true)]) (ha : (s.fn H (ds ++ gs)).args = ds) (hvs : (s.fn H (ds ++ gs)).vars = [])
  (hft : f.resultTypes = #[tb]) (htb : P.underlying tb = some .bool) :
  s.post enc P f false true false false W args (.bool true) W' := by
 have hW' := hW
 obtain ⟨pa, pv, hA, hV, hps, hz, hn⟩ := hW
 have hA' : DataW.TrodAll enc P W 0 (fun _ => true) true f.params.toList args.toList ds pa := hA
 rw [hv] at hV
 obtain ⟨hgs, hpv⟩ := trodVars_none hV
 subst hpv
 have hlt : ∀ p ∈ before, p.block < W.heap.size := fun p hp => hW'.lt p hp
 have hin : ∀ p ∈ pa, p ∈ before := fun p hp => by rw [hps]; simp [hp]
 have hres : ∀ (b : Nat) (sp : Nat → Bool) (hd : Bool), DataW.TrodAll enc P W' b sp hd f.resultTypes.toList ((Value.bool true).resultList f.resultTypes.size) (s.fn H (ds ++ gs)).results [] := by
  intro b sp hd
  rw [hr, hft]
  exact trodAll_mk1 (shut_bool htb true)
 have hargs : ∀ sp : Nat → Bool, (∀ p ∈ before, sp p.block = true) → DataW.TrodAll enc P W' 0 sp true f.params.toList args.toList (s.fn H (ds ++ gs)).args pa := by
  intro sp hsp
  rw [ha]
  exact xZ hl hb _ _ _ _ ht (fun x hx => hlt x (hin x hx)) hA' sp (fun x hx => hsp x (hin x hx))
 have hvars : ∀ sp : Nat → Bool, (∀ p ∈ before, sp p.block = true) → DataW.TrodVars enc P W' sp s.vars (s.fn H (ds ++ gs)).vars [] := by
  intro sp _
  rw [hvs, hv]
  rfl
 have hold : ∀ p ∈ before, (fun b => decide (b < W.heap.size)) p.block = true := fun p hp => by simpa using hlt p hp
 refine ⟨ds, gs, before, [], pa, [], hW', hres _ _ _, hargs _ hold, hvars _ hold, World.keptBut_mono (fun p hp => ⟨hp, ?_⟩) (hb.frame (· ∈ before)), fun h => by cases h⟩
 rw [hps, List.mem_append] at hp
 exact Or.inr hp
end
theorem zgN {H : Type} {enc : TypeId × Value → H} {P : Program} {w : World} {base : Nat} {spare : Nat → Bool} {held : Bool} {t e : TypeId} {fuel : Nat} {cs : List Value} {x : DataW H × List MemPlace}
  (ht : P.underlying t = some (.slice e)) (he : P.underlying e = some .string) (hc : P.cellsOf e = 1) (h : DataW.trod enc P w base spare held fuel t cs = some x) :
  ∃ (v : Value) (ss : List ByteArray), cs = [v] ∧ SlAt w v (ss.map Value.string) ∧ ∀ s ∈ ss, s.size ≤ maxLen := by
 rcases open_strings ht he hc h with ⟨hcs, _⟩ | ⟨a, len, cap, ss, hcs, _, hl, hm, hz, _, hcell, hws⟩
 ·exact ⟨_, [], hcs, SlAt.nil w, fun s hs => by cases hs⟩
 ·have hlen : (ss.take len).length = len := by
   rw [List.length_take]
   split at hz <;> omega
  refine ⟨_, ss.take len, hcs, ⟨some a, cap, by rw [List.length_map, hlen], by rw [List.length_map, hlen]; exact hl, hm, (fun h => by cases h), fun ad had j u hu => ?_⟩, fun s hs => hws s (List.mem_of_mem_take hs)⟩
  cases had
  have hj : j < (ss.take len).length := by
   have := (List.getElem?_eq_some_iff.1 hu).1
   simpa using this
  have hj' : j < ss.length := by rw [List.length_take] at hj; omega
  rw [hcell j hj']
  rw [List.getElem?_map, List.getElem?_take, if_pos (by rw [hlen] at hj; exact hj), List.getElem?_eq_getElem hj'] at hu
  rw [List.getD_eq_getElem?_getD, List.getElem?_eq_getElem hj']
  simpa using hu
end Go.Proofs.YtnehofekgnbelaaGreatDoor
namespace Go.Proofs.YtnehofekgnbelaaGreatDoor
open Go.ChangeShapes Go.WideShapes Go.ChangeAt Go.RowKit
theorem own : ownKnob Tryz.prog.godebug = none := by kernel_rfl
theorem zlW : laidOutB Tryz.prog = true := by kernel_rfl
def tab32 : List Int := [0, 1, 28, 2, 29, 14, 24, 3, 30, 22, 20, 15, 25, 17, 4, 8, 31, 27, 13, 23, 21, 19, 16, 7, 26, 12, 18, 6, 11, 5, 10, 9]
def tab64 : List Int := [0, 1, 56, 2, 57, 49, 28, 3, 61, 58, 42, 50, 38, 29, 17, 4, 62, 47, 59, 36, 45, 43, 51, 22, 53, 39, 33, 30, 24, 18, 12, 5, 63, 55, 48, 27, 60, 41, 37, 16, 46, 35, 44, 21, 52, 32, 23, 11, 54, 26, 40, 15, 34, 20, 31, 10, 25, 14, 19, 9, 13, 8, 7, 6]
def pow10 : List Int := [1, 10, 100, 1000, 10000, 100000, 1000000, 10000000, 100000000, 1000000000, 10000000000, 100000000000, 1000000000000, 10000000000000, 100000000000000, 1000000000000000, 10000000000000000, 100000000000000000, 1000000000000000000, 10000000000000000000]
noncomputable def zaA (os : Os) : World :=
 let w0 := World.holding Tryz.prog os ⟨#[], #[], []⟩
 let put (h : Array Obj) (g : Nat) (cs : Array Value) : Array Obj := h.modify g fun
  | .cells _ t frozen => .cells cs t frozen
  | o => o
 let h1 := put w0.heap 2 (tab32.map (Value.int .u8)).toArray
 let h2 := put h1 3 (tab64.map (Value.int .u8)).toArray
 let h3 := put h2 1 (pow10.map (Value.int .u64)).toArray
 { w0 with heap := h3 }
end Go.Proofs.YtnehofekgnbelaaGreatDoor

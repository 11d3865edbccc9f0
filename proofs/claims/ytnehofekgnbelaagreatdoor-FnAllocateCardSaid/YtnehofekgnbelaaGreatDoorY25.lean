/-
  Texts put together: Tried.
-/
import Derived.Test.YtnehofekgnbelaaGreatDoorM1
import Derived.Recover
namespace Go.Proofs.YtnehofekgnbelaaGreatDoor
open Go.RowKit
set_option linter.unusedVariables false
theorem zfT (p : Addr) (w : World) :
  CallsD Tryz.prog 71 #[.pointer (some p)] .returning w fun e u' w' => e = .returned (.tuple #[]) ∧ u' = .returning ∧ w' = w := by
 refine callsD_of_wpS Tryz.func71 rfl fun c₀ cs hu => ?_
 apply wpS_seq
 apply wpS_region
 simp [wpOpsS, go_sem, recoverD, hu, Tryz.ntmps71, Exit.thenS]
 refine wpS_cond (t := false) (by simp [Act.eval, Array.replicate]) ?_
 simp only [Bool.false_eq_true, if_false]
 refine wpS_of_wp (wp_skip ?_)
 cases c₀
 simp_all [bodyPostS, results, Tryz.results71]
def yI (w : World) : World := w.alloc (.cells #[.bool false] 4)
def zgZ (w : World) (b : Bool) (R : World → Prop) (e : Ending) (w' : World) : Prop := e = .returned (.bool b) ∧ ∃ w1, R w1 ∧ w' = w1.setCell ⟨w.heap.size, 0, none⟩ (.bool b)
theorem zfD (G : FuncId) (caps : Array Value) (w : World) (R : World → Prop) (heg : ∀ (args : Array Value) (w : World), (callFunc G args).run Tryz.prog w = .ok (.enter G args) w)
  (hdo : Calls Tryz.prog G caps (yI w) fun e w' => e = .returned (.tuple #[]) ∧ R w') (hR : ∀ w', R w' → w'.heap[w.heap.size]? = some (.cells #[.bool false] 4 (0, 0))) :
  Calls Tryz.prog 43 #[.func (.func G) #[] caps] w (zgZ w true R) := by
 have hmf : ∀ (fn : Fn) (first cap : Array Value) (w : World), (Instr.makeFunc fn first cap).run Tryz.prog w = .ok (.func fn first cap) w := fun _ _ _ _ => rfl
 have HD := Lib.hid hdo
 have HR := Lib.hid hR
 clear hdo hR
 go_enter_defers Tryz.func43, Tryz.ntmps43
 go_wp2_with fail
 refine HD.out.mono ?_
 rintro e w1 ⟨rfl, hr⟩
 have hh := HR.out w1 hr
 have c0 := cell_of_row w1 _ 0 _ _ _ hh
 have z0 := frozen_of_row w1 _ 0 _ _ hh
 simp at c0
 have HRR := Lib.hid hr
 have HH := Lib.hid hh
 clear hr hh
 go_wp2_with fail
 refine leaves_cons (f := 71) (args := #[.pointer (some ⟨w.heap.size, 0, none⟩)]) (by simp) (by simp [go_sem]) ?_
 refine (zfT ⟨w.heap.size, 0, none⟩ _).mono ?_
 rintro e u' w'' ⟨rfl, rfl, rfl⟩
 have hset : (w1.setCell ⟨w.heap.size, 0, none⟩ (.bool true)).cell? ⟨w.heap.size, 0, none⟩ = some (.bool true) := by simp [go_sem, c0]
 simp [Leaves, settle, results, Tryz.results43, go_sem, c0]
 exact ⟨rfl, w1, HRR.out, rfl⟩
end Go.Proofs.YtnehofekgnbelaaGreatDoor

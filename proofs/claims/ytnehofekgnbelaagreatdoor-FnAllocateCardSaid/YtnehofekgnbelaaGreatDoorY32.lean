/-
  Texts put together: CanStr.
-/
import Derived.Test.YtnehofekgnbelaaGreatDoorY31
import Derived.Test.YtnehofekgnbelaaGreatDoorY26
import Derived.Test.YtnehofekgnbelaaGreatDoorY2
namespace Go.Proofs.YtnehofekgnbelaaGreatDoor
open Go.RowKit
set_option linter.unusedVariables false
set_option maxRecDepth 100000
set_option maxHeartbeats 1000000
instance kinMet' (w : World) : Nonempty (Kin w) := ⟨⟨w, Below.refl w.heap.size w⟩⟩
theorem xO {R : RIn} (hk : ROk R) (h : okR R = true) : (zE R).ok := by
 unfold okR canonP at h
 simp only [Bool.and_eq_true, decide_eq_true_eq] at h
 obtain ⟨⟨⟨h2, hn⟩, _⟩, _⟩ := h
 unfold zE
 cases ho : R.o3 with
 | none => exact up_ok hk.oa hk.room h2 hn
 | some s => exact hk.k3 s ho
end Go.Proofs.YtnehofekgnbelaaGreatDoor

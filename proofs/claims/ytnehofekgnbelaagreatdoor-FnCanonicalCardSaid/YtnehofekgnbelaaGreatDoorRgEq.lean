/-
  Ranges of texts compared as structs.
-/
import Derived.Test.YtnehofekgnbelaaGreatDoorM1
import Derived.Laws.StructEq
namespace Go.Proofs.YtnehofekgnbelaaGreatDoor
open Go.RowKit
set_option linter.unusedVariables false
set_option maxRecDepth 100000
set_option maxHeartbeats 1000000

theorem fields_rg : ∃ f g h k : Field, (Tryz.prog.fieldsOf 23).toList = [f, g, h, k] ∧ (f.name ≠ "_" ∧ g.name ≠ "_" ∧ h.name ≠ "_" ∧ k.name ≠ "_") ∧ (f.offset = 0 ∧ g.offset = 1 ∧ h.offset = 2 ∧ k.offset = 3) ∧ f.type = 9 ∧ g.type = 9 ∧ h.type = 9 ∧ k.type = 9 := by
  refine ⟨(Tryz.prog.fieldsOf 23)[0]!, (Tryz.prog.fieldsOf 23)[1]!, (Tryz.prog.fieldsOf 23)[2]!, (Tryz.prog.fieldsOf 23)[3]!, by kernel_rfl, ⟨by decide +kernel, by decide +kernel, by decide +kernel, by decide +kernel⟩, ⟨by kernel_rfl, by kernel_rfl, by kernel_rfl, by kernel_rfl⟩, by kernel_rfl, by kernel_rfl, by kernel_rfl, by kernel_rfl⟩

/-- Four texts are the same as themselves. -/
theorem run_eql_rg (w : World) (x y z u : ByteArray) : (binOp .eql 23 (.agg #[.string x, .string y, .string z, .string u]) (.agg #[.string x, .string y, .string z, .string u])).run Tryz.prog w = .ok (.bool true) w := by
  have h1 : Tryz.prog.underlying 23 = some (.struct (Tryz.prog.fieldsOf 23)) := by kernel_rfl
  have h2 : Tryz.prog.stoodInHeld 23 = false := by kernel_rfl
  rw [run_eql_struct, run_equalIn_agg w 9999 _ _ _ h1 h2]
  obtain ⟨f, g, h, k, hf, ⟨n1, n2, n3, n4⟩, ⟨o1, o2, o3, o4⟩, t1, t2, t3, t4⟩ := fields_rg
  rw [hf]
  have u1 : Tryz.prog.underlying 9 = some .string := by kernel_rfl
  have p1 : ∀ w, (part 9 #[.string x, .string y, .string z, .string u] 0).run Tryz.prog w = .ok (.string x) w := fun w => by kernel_rfl
  have p2 : ∀ w, (part 9 #[.string x, .string y, .string z, .string u] 1).run Tryz.prog w = .ok (.string y) w := fun w => by kernel_rfl
  have p3 : ∀ w, (part 9 #[.string x, .string y, .string z, .string u] 2).run Tryz.prog w = .ok (.string z) w := fun w => by kernel_rfl
  have p4 : ∀ w, (part 9 #[.string x, .string y, .string z, .string u] 3).run Tryz.prog w = .ok (.string u) w := fun w => by kernel_rfl
  have e1 : ∀ (a : ByteArray) w, (Op.equalIn 9999 9 (.string a) (.string a)).run Tryz.prog w = .ok true w := fun a w => by
    rw [run_equalIn_string w 9998 _ _ _ u1]
    simp
  simp only [Op.eqFields, n1, n2, n3, n4, o1, o2, o3, o4, t1, t2, t3, t4, ne_eq, not_false_eq_true, if_true, Sem.run_bind, p1, p2, p3, p4, e1, Result.andThen_ok, Sem.run_ite, Sem.run_pure]
  rfl
theorem guard_rg (op : BinOp) (x y : Operand) (xs ys : Array Value) (w : World) : (eqGuard op 23 x y (.agg xs) (.agg ys)).run Tryz.prog w = .ok () w :=
  run_eqGuard_agg w op _ x y xs ys (by kernel_rfl)

end Go.Proofs.YtnehofekgnbelaaGreatDoor

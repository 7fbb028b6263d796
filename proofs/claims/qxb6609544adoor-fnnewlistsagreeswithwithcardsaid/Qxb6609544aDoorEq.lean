import Derived.Test.Qxb6609544aDoorClone
namespace Go.Proofs.Qxb6609544aDoor
open Go.RowKit

theorem fields49 : Tryd.prog.underlying 49 = some (.struct (Tryd.prog.fieldsOf 49)) := by kernel_rfl
theorem held49 : Tryd.prog.stoodInHeld 49 = false := by kernel_rfl
theorem eq49 (d : Nat) (zp : Addr) (x y : Int × Int) (w : World) : (Op.equalIn (d + 4) 49 (entV zp x.1 x.2) (entV zp y.1 y.2)).run Tryd.prog w = .ok (decide (x = y)) w := by
  have hp : ∀ w, (Op.equalIn (d + 1) 43 (.pointer (some zp)) (.pointer (some zp))).run Tryd.prog w = .ok true w := fun w => eqP d zp w
  rw [show d + 4 = (d + 3) + 1 from rfl, run_equalIn_agg w (d + 3) 49 _ _ fields49 held49]
  simp only [Program.fieldsOf, Tryd.underlying49]
  go_simp
  have e1 : (low x.1 = low y.1) ↔ x.1 = y.1 := by unfold low; omega
  have e2 : (low x.2 = low y.2) ↔ x.2 = y.2 := by unfold low; omega
  have e3 : (x = y) ↔ (x.1 = y.1 ∧ x.2 = y.2) := Prod.ext_iff
  simp only [e1, e2, e3]
  by_cases h1 : x.1 = y.1
  · by_cases h2 : x.2 = y.2 <;> simp [h1, h2]
  · simp [h1]
/-- '==' and '!=' at entries. -/
theorem eqlE (zp : Addr) (x y : Int × Int) (w : World) : (binOp .eql 49 (entV zp x.1 x.2) (entV zp y.1 y.2)).run Tryd.prog w = .ok (.bool (decide (x = y))) w := by rw [run_eql_struct, eq49 9996]; rfl
theorem neqE (zp : Addr) (x y : Int × Int) (w : World) : (binOp .neq 49 (entV zp x.1 x.2) (entV zp y.1 y.2)).run Tryd.prog w = .ok (.bool (!decide (x = y))) w := by rw [run_neq_struct, eq49 9996]; rfl
theorem grdE (op : BinOp) (a b : Operand) (xs ys : Array Value) (w : World) : (eqGuard op 49 a b (.agg xs) (.agg ys)).run Tryd.prog w = .ok () w := run_eqGuard_agg w op 49 a b xs ys (by kernel_rfl)
end Go.Proofs.Qxb6609544aDoor

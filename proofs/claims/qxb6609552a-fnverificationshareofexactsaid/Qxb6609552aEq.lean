import Derived.Test.Qxb6609552aOf
import Derived.ChangeKeysEq
namespace Go.Proofs.Qxb6609552a
open Go.RowKit

theorem part5 (w : World) (l : List Value) (j : Nat) (z : Int) (h : l[j]? = some (.int .u8 z)) : (part 5 l.toArray j).run Try.prog w = .ok (.int .u8 z) w := by
  simp [part, isAgg, h, go_sem]
theorem items (w : World) (d : Nat) (l : List Value) (hl : Pnt l) : ∀ is : List Nat, (∀ j ∈ is, j < 33) → (Op.eqItems (d + 1) 5 1 l.toArray l.toArray is).run Try.prog w = .ok true w
  | [], _ => by simp [Op.eqItems]
  | j :: is, h => by
    have hj : j < l.length := by rw [hl.1]; exact h j (by simp)
    obtain ⟨z, hz⟩ := hl.2 _ (List.getElem_mem hj)
    have hp := part5 w l j z (by rw [List.getElem?_eq_getElem hj, hz])
    have hi := items w d l hl is (fun i hi => h i (by simp [hi]))
    simp only [Op.eqItems, Sem.run_bind, Nat.mul_one, hp, Result.andThen_ok, run_equalIn_int w d 5 .u8 .u8 z z Try.underlying5]
    simpa using hi
theorem equal35 (w : World) (l : List Value) (hl : Pnt l) : (Op.equalIn 10000 35 (.agg l.toArray) (.agg l.toArray)).run Try.prog w = .ok true w := by
  cases hi : Try.prog.info? 5 with
  | none => have h : (Try.prog.info? 5).isSome = true := by kernel_rfl
            simp [hi] at h
  | some i =>
    rw [show (10000 : Nat) = 9999 + 1 from rfl, run_equalIn_array w 9999 _ _ Try.underlying35 hi]
    have hc : Try.prog.cellsOf 5 = 1 := by kernel_rfl
    rw [hc]
    exact items w 9998 l hl _ (fun j hj => by simpa using hj)
theorem eql35 (w : World) (l : List Value) (hl : Pnt l) : (binOp .eql 35 (.agg l.toArray) (.agg l.toArray)).run Try.prog w = .ok (.bool true) w := by
  rw [run_eql_struct, equal35 w l hl]; rfl
end Go.Proofs.Qxb6609552a

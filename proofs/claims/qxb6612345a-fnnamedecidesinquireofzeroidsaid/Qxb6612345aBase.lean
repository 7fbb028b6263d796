import Derived.Test.Qxb6612345aRows
import Derived.Test.Qxb6612345aLocks
import Derived.WalkKit
import Derived.WalkSpells
import Derived.WalkLawsBesides
import Derived.BigQuiet
import Derived.Deep.QuietTactic
import Derived.Carry
import Derived.Conc.MuLone
namespace Go.Proofs.Qxb6612345a
open Go.RowKit Go.MuLone

/-- The zero id. -/
abbrev id0 : Value := .agg #[.string ⟨#[]⟩, .string ⟨#[]⟩]
theorem ckS (b : Bool) (n : Nat) (s : ByteArray) (W : World) : (Instr.checkKey b (n + 1) 9 (.string s)).run Try.prog W = .ok () W := by
  simp [Instr.checkKey, go_sem]
theorem ck (b : Bool) (n : Nat) (W : World) : (Instr.checkKey b (n + 1 + 1) 31 id0).run Try.prog W = .ok () W := by
  have h1 := ckS b n
  rw [Instr.checkKey]
  simp [go_sem, h1, part, isAgg]
/-- A lookup of the zero id in an empty map. -/
theorem look {t e : TypeId} {z : Value} (ht : Try.prog.underlying t = some (.map 31 e)) (hz : ∀ W, (zeroValue e).run Try.prog W = .ok z W) (r : Nat) (W : World) (h : W.heap[r]? = some (.map #[] 0)) :
    (Instr.lookup t (.map (some r)) id0 false).run Try.prog W = .ok z W := by
  have hc : ∀ W, (Instr.checkKey true 10000 31 id0).run Try.prog W = .ok () W := ck true 9998
  have hg : (getObj r).run Try.prog W = .ok (.map #[] 0) W := by simp [getObj, Sem.run, h]
  simp only [Instr.lookup, Sem.run_bind, run_underlying ht, Result.andThen_ok, hg, Sem.run_pure]
  simp [hc, hz, go_sem, Instr.findKey, Instr.findNow]
end Go.Proofs.Qxb6612345a

import Derived.Test.Qxb6609485aOrd
import Derived.Deep.QuietTactic
import Derived.BigQuiet
namespace Go.Proofs.Qxb6609485a
open Go.RowKit

/-- A world that has kept all that lay in w. (A structure of its own: ONE '∃' for the set of worlds of the quiet walk.) -/
structure Kin (w : World) where
  at' : World
  below : Below w.heap.size w at'

/-- A region that draws its order, whose operations only read and whose callees keep all that lay: walked once, in the order of the text. -/
theorem wp_region_kin {P : Program} {id : Nat} {Q : Exit → Act → World → Prop} {a : Act} {w : World} {l : List Oper} (hm : P.follows .mixedOrders = true) (hB : Region.lexB .any l.toArray = true)
    (h : wpQuiet P l.toArray (fun w' => ∃ p : Kin w, w' = p.at') (fun a' => ∀ w', (∃ p : Kin w, w' = p.at') → Q .normal a' w') l a) : (Code.region id l.toArray true).wp P Q a w :=
  wp_region_quiet (C := fun w' => ∃ p : Kin w, w' = p.at') hm hB ⟨⟨w.drew, (Below.refl _ _).drew⟩, rfl⟩ (by simpa using h)

theorem kinNe (w : World) : Nonempty (Kin w) := ⟨⟨w, Below.refl _ _⟩⟩
theorem Kin.cell {w : World} {a : Addr} {v : Value} (hb : a.block < w.heap.size) (h : w.cell? a = some v) (p : Kin w) : p.at'.cell? a = some v := (p.below.cell hb).trans h

theorem kin_of {P : Program} {f : FuncId} {args : Array Value} {w : World} {p : Kin w} {v : Value}
    (h : Calls P f args p.at' fun e w' => e = .returned v ∧ Below p.at'.heap.size p.at' w') : Calls P f args p.at' fun e w'' => e = .returned v ∧ ∃ q : Kin w, w'' = q.at' :=
  h.mono fun _ w' ⟨he, hb⟩ => ⟨he, ⟨w', p.below.trans (hb.mono p.below.size)⟩, rfl⟩

end Go.Proofs.Qxb6609485a

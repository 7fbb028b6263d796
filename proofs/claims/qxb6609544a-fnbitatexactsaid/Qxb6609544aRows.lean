/-
  No cell of these rows narrows 'for every input' (looked for: loops, veiled, ifaces, maps, wideKeys, modest, calm, conditions, laid).
  DERIVED. THE GIVEN ROWS OF THIS SEAT. 2 by the template 'for every input the law returns true; each argument reads behind the call as it read before'; 0 by the template 'total and deterministic' (their statements: Qxb6609544aTotals.lean).
  GIVEN WITH THE SEED: the statements are not yours to turn. If you find one false, say at which input.
  Laid BY PROGRAM, IN A SANDBOX (cutbox-rows.mjs): the forced cells as the released guide's own fill.sh prints them over the translation 4d9efc762dc07c08… (all of the seat's roots in one cut). By AI agents, Wed Nov 11 2026. No macro, syntax, notation, axiom, sorry.
-/
import Derived.Test.Qxb6609544aChecked
import GoSem.Claim
import GoSem.ClaimJoined
import GoSem.ClaimMapViews
import Derived.JoinedTies
import Derived.KernelRfl
namespace Go.Proofs.Qxb6609544a
/- THE CELL 'sum', in the pinned program and in every row, IS THE sha256 OF THE DUMP (.gsa) THAT Qxb6609544aProg.lean LOADS. Nothing in Lean hashes anything: it is a label: what it is worth is what the hold of that sum in a sandbox is worth. -/
noncomputable def Try.pinned : Pinned := { name := "qxb6609544a", sum := "4d9efc762dc07c08959271399c71b024a7869c5b645b2b0ae941b5a3c3480748", checked := Try.checked }
namespace Rows
def none {H : Type} : Left H := { results := [], args := [] }

/-- 'zzlaws_pkg_iplist_b1.FnBitAtReassembles': WHATEVER THE INPUT: true; the input reads as it did. -/
def fnBitAtReassemblesSpec : ChangeSpec := { name := "fnBitAtReassembles", fn := fun _ => fun
  | [d] => { results := [.lit (.bool true)], args := [d] }
  | _ => none }
def fnBitAtReassemblesRow : OpenClaim := { program := "qxb6609544a", sum := "4d9efc762dc07c08959271399c71b024a7869c5b645b2b0ae941b5a3c3480748", func := "example.com/tidewall/tidewall/zzlaws_pkg_iplist_b1.FnBitAtReassembles", spec := "fnBitAtReassembles", apart := false }
def FnBitAtReassemblesSaid : Prop := fnBitAtReassemblesRow.holds Try.pinned (OpenSpec.ofChange fnBitAtReassemblesSpec)

/-- ITS FALSE NEIGHBOUR: 'it returns false'. Refute it at one input. -/
def fnBitAtReassemblesWrong : ChangeSpec := { name := "fnBitAtReassembles", fn := fun _ => fun
  | [d] => { results := [.lit (.bool false)], args := [d] }
  | _ => none }
def FnBitAtReassemblesWrongFalsely : Prop := fnBitAtReassemblesRow.holds Try.pinned (OpenSpec.ofChange fnBitAtReassemblesWrong)

/-- 'zzlaws_pkg_iplist_b1.FnBitAtExact': WHATEVER THE INPUT: true; the input reads as it did. -/
def fnBitAtExactSpec : ChangeSpec := { name := "fnBitAtExact", fn := fun _ => fun
  | [d1, d2] => { results := [.lit (.bool true)], args := [d1, d2] }
  | _ => none }
def fnBitAtExactRow : OpenClaim := { program := "qxb6609544a", sum := "4d9efc762dc07c08959271399c71b024a7869c5b645b2b0ae941b5a3c3480748", func := "example.com/tidewall/tidewall/zzlaws_pkg_iplist_b1.FnBitAtExact", spec := "fnBitAtExact", apart := false }
def FnBitAtExactSaid : Prop := fnBitAtExactRow.holds Try.pinned (OpenSpec.ofChange fnBitAtExactSpec)

/-- ITS FALSE NEIGHBOUR: 'it returns false'. Refute it at one input. -/
def fnBitAtExactWrong : ChangeSpec := { name := "fnBitAtExact", fn := fun _ => fun
  | [d1, d2] => { results := [.lit (.bool false)], args := [d1, d2] }
  | _ => none }
def FnBitAtExactWrongFalsely : Prop := fnBitAtExactRow.holds Try.pinned (OpenSpec.ofChange fnBitAtExactWrong)

end Rows
end Go.Proofs.Qxb6609544a

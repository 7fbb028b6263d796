/-
  No cell of these rows narrows 'for every input' (looked for: loops, veiled, ifaces, maps, wideKeys, modest, calm, conditions, laid).
  DERIVED. THE GIVEN ROWS OF THIS SEAT. 3 by the template 'for every input the law returns true; each argument reads behind the call as it read before'; 0 by the template 'total and deterministic' (their statements: Qxb6609485aTotals.lean).
  GIVEN WITH THE SEED: the statements are not yours to turn. If you find one false, say at which input.
  Laid BY PROGRAM, IN A SANDBOX (cutbox-rows.mjs): the forced cells as the released guide's own fill.sh prints them over the translation c60a88395a0d2727… (all of the seat's roots in one cut). By AI agents, Wed Nov 11 2026. No macro, syntax, notation, axiom, sorry.
-/
import Derived.Test.Qxb6609485aChecked
import GoSem.Claim
import GoSem.ClaimJoined
import GoSem.ClaimMapViews
import Derived.JoinedTies
import Derived.KernelRfl
namespace Go.Proofs.Qxb6609485a
/- THE CELL 'sum', in the pinned program and in every row, IS THE sha256 OF THE DUMP (.gsa) THAT Qxb6609485aProg.lean LOADS. Nothing in Lean hashes anything: it is a label: what it is worth is what the hold of that sum in a sandbox is worth. -/
noncomputable def Try.pinned : Pinned := { name := "qxb6609485a", sum := "c60a88395a0d27279ca5cce9e61852f375f4fc580456b259eff23e4d9b50431f", checked := Try.checked }
namespace Rows
def none {H : Type} : Left H := { results := [], args := [] }

/-- 'zzlaws_internal_replica_b1.FnKeyedDocCompareIsByteOrder': WHATEVER THE INPUT: true; the input reads as it did. -/
def fnKeyedDocCompareIsByteOrderSpec : ChangeSpec := { name := "fnKeyedDocCompareIsByteOrder", fn := fun _ => fun
  | [d1, d2] => { results := [.lit (.bool true)], args := [d1, d2] }
  | _ => none }
def fnKeyedDocCompareIsByteOrderRow : OpenClaim := { program := "qxb6609485a", sum := "c60a88395a0d27279ca5cce9e61852f375f4fc580456b259eff23e4d9b50431f", func := "example.com/quorumgate/quorumgate/zzlaws_internal_replica_b1.FnKeyedDocCompareIsByteOrder", spec := "fnKeyedDocCompareIsByteOrder", inPlace := ["internal/bytealg.abigen_runtime_cmpstring"], named := ["encoding/binary.BigEndian"], apart := false }
def FnKeyedDocCompareIsByteOrderSaid : Prop := fnKeyedDocCompareIsByteOrderRow.holds Try.pinned (OpenSpec.ofChange fnKeyedDocCompareIsByteOrderSpec)

/-- ITS FALSE NEIGHBOUR: 'it returns false'. Refute it at one input. -/
def fnKeyedDocCompareIsByteOrderWrong : ChangeSpec := { name := "fnKeyedDocCompareIsByteOrder", fn := fun _ => fun
  | [d1, d2] => { results := [.lit (.bool false)], args := [d1, d2] }
  | _ => none }
def FnKeyedDocCompareIsByteOrderWrongFalsely : Prop := fnKeyedDocCompareIsByteOrderRow.holds Try.pinned (OpenSpec.ofChange fnKeyedDocCompareIsByteOrderWrong)

/-- 'zzlaws_internal_replica_b1.FnKeyedDocCompareIsStrictTotalOrder': WHATEVER THE INPUT: true; the input reads as it did. -/
def fnKeyedDocCompareIsStrictTotalOrderSpec : ChangeSpec := { name := "fnKeyedDocCompareIsStrictTotalOrder", fn := fun _ => fun
  | [d1, d2, d3] => { results := [.lit (.bool true)], args := [d1, d2, d3] }
  | _ => none }
def fnKeyedDocCompareIsStrictTotalOrderRow : OpenClaim := { program := "qxb6609485a", sum := "c60a88395a0d27279ca5cce9e61852f375f4fc580456b259eff23e4d9b50431f", func := "example.com/quorumgate/quorumgate/zzlaws_internal_replica_b1.FnKeyedDocCompareIsStrictTotalOrder", spec := "fnKeyedDocCompareIsStrictTotalOrder", inPlace := ["internal/bytealg.abigen_runtime_cmpstring"], named := ["encoding/binary.BigEndian"], apart := false }
def FnKeyedDocCompareIsStrictTotalOrderSaid : Prop := fnKeyedDocCompareIsStrictTotalOrderRow.holds Try.pinned (OpenSpec.ofChange fnKeyedDocCompareIsStrictTotalOrderSpec)

/-- ITS FALSE NEIGHBOUR: 'it returns false'. Refute it at one input. -/
def fnKeyedDocCompareIsStrictTotalOrderWrong : ChangeSpec := { name := "fnKeyedDocCompareIsStrictTotalOrder", fn := fun _ => fun
  | [d1, d2, d3] => { results := [.lit (.bool false)], args := [d1, d2, d3] }
  | _ => none }
def FnKeyedDocCompareIsStrictTotalOrderWrongFalsely : Prop := fnKeyedDocCompareIsStrictTotalOrderRow.holds Try.pinned (OpenSpec.ofChange fnKeyedDocCompareIsStrictTotalOrderWrong)

/-- 'zzlaws_internal_replica_b1.FnBelowCountsListedBefore': WHATEVER THE INPUT: true; the input reads as it did. -/
def fnBelowCountsListedBeforeSpec : ChangeSpec := { name := "fnBelowCountsListedBefore", fn := fun _ => fun
  | [d1, d2, d3, d4, d5] => { results := [.lit (.bool true)], args := [d1, d2, d3, d4, d5] }
  | _ => none }
def fnBelowCountsListedBeforeRow : OpenClaim := { program := "qxb6609485a", sum := "c60a88395a0d27279ca5cce9e61852f375f4fc580456b259eff23e4d9b50431f", func := "example.com/quorumgate/quorumgate/zzlaws_internal_replica_b1.FnBelowCountsListedBefore", spec := "fnBelowCountsListedBefore", inPlace := ["internal/bytealg.abigen_runtime_cmpstring"], unfollowed := true, recurses := true, named := ["encoding/binary.BigEndian"], apart := false }
def FnBelowCountsListedBeforeSaid : Prop := fnBelowCountsListedBeforeRow.holds Try.pinned (OpenSpec.ofChange fnBelowCountsListedBeforeSpec)

/-- ITS FALSE NEIGHBOUR: 'it returns false'. Refute it at one input. -/
def fnBelowCountsListedBeforeWrong : ChangeSpec := { name := "fnBelowCountsListedBefore", fn := fun _ => fun
  | [d1, d2, d3, d4, d5] => { results := [.lit (.bool false)], args := [d1, d2, d3, d4, d5] }
  | _ => none }
def FnBelowCountsListedBeforeWrongFalsely : Prop := fnBelowCountsListedBeforeRow.holds Try.pinned (OpenSpec.ofChange fnBelowCountsListedBeforeWrong)

end Rows
end Go.Proofs.Qxb6609485a

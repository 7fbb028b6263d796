/-
  No cell of these rows narrows 'for every input' (looked for: loops, veiled, ifaces, maps, wideKeys, modest, calm, conditions, laid).
  DERIVED. THE GIVEN ROWS OF THIS SEAT. 1 by the template 'for every input the law returns true; each argument reads behind the call as it read before'; 0 by the template 'total and deterministic' (their statements: Qxb6612345aTotals.lean).
  GIVEN WITH THE SEED: the statements are not yours to turn. If you find one false, say at which input.
  Laid BY PROGRAM, IN A SANDBOX (cutbox-rows.mjs): the forced cells as the released guide's own fill.sh prints them over the translation 4a73edb5ee91e351… (all of the seat's roots in one cut). By AI agents, Wed Nov 11 2026. No macro, syntax, notation, axiom, sorry.
-/
import Derived.Test.Qxb6612345aChecked
import GoSem.Claim
import GoSem.ClaimJoined
import GoSem.ClaimMapViews
import Derived.JoinedTies
import Derived.KernelRfl
namespace Go.Proofs.Qxb6612345a
/- THE CELL 'sum', in the pinned program and in every row, IS THE sha256 OF THE DUMP (.gsa) THAT Qxb6612345aProg.lean LOADS. Nothing in Lean hashes anything: it is a label: what it is worth is what the hold of that sum in a sandbox is worth. -/
noncomputable def Try.pinned : Pinned := { name := "qxb6612345a", sum := "4a73edb5ee91e351c3e7caf6b026246cb806bb6c1555a7c528bcdc42d67ef0a5", checked := Try.checked }
namespace Rows
def none {H : Type} : Left H := { results := [], args := [] }

/-- 'zzlaws_internal_coord_b1.FnNameDecidesInquireOfZeroID': WHATEVER THE INPUT: true; the input reads as it did. -/
def fnNameDecidesInquireOfZeroIDSpec : ChangeSpec := { name := "fnNameDecidesInquireOfZeroID", fn := fun _ => fun
  | [d] => { results := [.lit (.bool true)], args := [d] }
  | _ => none }
def fnNameDecidesInquireOfZeroIDRow : OpenClaim := { program := "qxb6612345a", sum := "4a73edb5ee91e351c3e7caf6b026246cb806bb6c1555a7c528bcdc42d67ef0a5", func := "example.com/concordat/concordat/zzlaws_internal_coord_b1.FnNameDecidesInquireOfZeroID", spec := "fnNameDecidesInquireOfZeroID", inPlace := ["(*internal/sync.Mutex).Lock", "internal/race.Disable", "sync/atomic.CompareAndSwapInt32", "internal/race.Enable", "internal/race.Acquire", "(*internal/sync.Mutex).lockSlow", "internal/sync.runtime_canSpin", "internal/sync.runtime_doSpin", "internal/sync.throw", "internal/sync.runtime_nanotime", "internal/sync.runtime_SemacquireMutex", "sync/atomic.AddInt32", "(*internal/sync.Mutex).Unlock", "internal/race.ReleaseMerge", "(*internal/sync.Mutex).unlockSlow", "internal/sync.fatal", "internal/sync.runtime_Semrelease"], plainKeys := false, apart := false }
def FnNameDecidesInquireOfZeroIDSaid : Prop := fnNameDecidesInquireOfZeroIDRow.holds Try.pinned (OpenSpec.ofChange fnNameDecidesInquireOfZeroIDSpec)

/-- ITS FALSE NEIGHBOUR: 'it returns false'. Refute it at one input. -/
def fnNameDecidesInquireOfZeroIDWrong : ChangeSpec := { name := "fnNameDecidesInquireOfZeroID", fn := fun _ => fun
  | [d] => { results := [.lit (.bool false)], args := [d] }
  | _ => none }
def FnNameDecidesInquireOfZeroIDWrongFalsely : Prop := fnNameDecidesInquireOfZeroIDRow.holds Try.pinned (OpenSpec.ofChange fnNameDecidesInquireOfZeroIDWrong)

end Rows
end Go.Proofs.Qxb6612345a

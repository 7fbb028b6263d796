/-
  No cell of these rows narrows 'for every input' (looked for: loops, veiled, ifaces, maps, wideKeys, modest, calm, conditions, laid).
  DERIVED. THE GIVEN ROWS OF THIS SEAT. 4 by the template 'for every input the law returns true; each argument reads behind the call as it read before'; 0 by the template 'total and deterministic' (their statements: Qxb6609552aTotals.lean).
  GIVEN WITH THE SEED: the statements are not yours to turn. If you find one false, say at which input.
  Laid BY PROGRAM, IN A SANDBOX (cutbox-rows.mjs): the forced cells as the released guide's own fill.sh prints them over the translation e71723be135b2d4c… (all of the seat's roots in one cut). By AI agents, Wed Nov 11 2026. No macro, syntax, notation, axiom, sorry.
-/
import Derived.Test.Qxb6609552aChecked
import GoSem.Claim
import GoSem.ClaimJoined
import GoSem.ClaimMapViews
import Derived.JoinedTies
import Derived.KernelRfl
namespace Go.Proofs.Qxb6609552a
/- THE CELL 'sum', in the pinned program and in every row, IS THE sha256 OF THE DUMP (.gsa) THAT Qxb6609552aProg.lean LOADS. Nothing in Lean hashes anything: it is a label: what it is worth is what the hold of that sum in a sandbox is worth. -/
noncomputable def Try.pinned : Pinned := { name := "qxb6609552a", sum := "e71723be135b2d4c1ec12562c7aa7a7923bfd60e60a5b16d8bb8712645774bc5", checked := Try.checked }
namespace Rows
def none {H : Type} : Left H := { results := [], args := [] }

/-- 'zzlaws_root_b1.FnProofContextInjective': WHATEVER THE INPUT: true; the input reads as it did. -/
def fnProofContextInjectiveSpec : ChangeSpec := { name := "fnProofContextInjective", fn := fun _ => fun
  | [d1, d2, d3, d4] => { results := [.lit (.bool true)], args := [d1, d2, d3, d4] }
  | _ => none }
def fnProofContextInjectiveRow : OpenClaim := { program := "qxb6609552a", sum := "e71723be135b2d4c1ec12562c7aa7a7923bfd60e60a5b16d8bb8712645774bc5", func := "example.com/shareloom/shareloom/zzlaws_root_b1.FnProofContextInjective", spec := "fnProofContextInjective", named := ["encoding/binary.BigEndian"], apart := false }
def FnProofContextInjectiveSaid : Prop := fnProofContextInjectiveRow.holds Try.pinned (OpenSpec.ofChange fnProofContextInjectiveSpec)

/-- ITS FALSE NEIGHBOUR: 'it returns false'. Refute it at one input. -/
def fnProofContextInjectiveWrong : ChangeSpec := { name := "fnProofContextInjective", fn := fun _ => fun
  | [d1, d2, d3, d4] => { results := [.lit (.bool false)], args := [d1, d2, d3, d4] }
  | _ => none }
def FnProofContextInjectiveWrongFalsely : Prop := fnProofContextInjectiveRow.holds Try.pinned (OpenSpec.ofChange fnProofContextInjectiveWrong)

/-- 'zzlaws_root_b1.FnVerificationShareOfExact': WHATEVER THE INPUT: true; the input reads as it did. -/
def fnVerificationShareOfExactSpec : ChangeSpec := { name := "fnVerificationShareOfExact", fn := fun _ => fun
  | [d1, d2, d3, d4, d5, d6, d7] => { results := [.lit (.bool true)], args := [d1, d2, d3, d4, d5, d6, d7] }
  | _ => none }
def fnVerificationShareOfExactRow : OpenClaim := { program := "qxb6609552a", sum := "e71723be135b2d4c1ec12562c7aa7a7923bfd60e60a5b16d8bb8712645774bc5", func := "example.com/shareloom/shareloom/zzlaws_root_b1.FnVerificationShareOfExact", spec := "fnVerificationShareOfExact", unfollowed := true, recurses := true, apart := false }
def FnVerificationShareOfExactSaid : Prop := fnVerificationShareOfExactRow.holds Try.pinned (OpenSpec.ofChange fnVerificationShareOfExactSpec)

/-- ITS FALSE NEIGHBOUR: 'it returns false'. Refute it at one input. -/
def fnVerificationShareOfExactWrong : ChangeSpec := { name := "fnVerificationShareOfExact", fn := fun _ => fun
  | [d1, d2, d3, d4, d5, d6, d7] => { results := [.lit (.bool false)], args := [d1, d2, d3, d4, d5, d6, d7] }
  | _ => none }
def FnVerificationShareOfExactWrongFalsely : Prop := fnVerificationShareOfExactRow.holds Try.pinned (OpenSpec.ofChange fnVerificationShareOfExactWrong)

/-- 'zzlaws_root_b1.FnScalarIsReducedSha256': WHATEVER THE INPUT: true; the input reads as it did. -/
def fnScalarIsReducedSha256Spec : ChangeSpec := { name := "fnScalarIsReducedSha256", fn := fun _ => fun
  | [d] => { results := [.lit (.bool true)], args := [d] }
  | _ => none }
def fnScalarIsReducedSha256Row : OpenClaim := { program := "qxb6609552a", sum := "e71723be135b2d4c1ec12562c7aa7a7923bfd60e60a5b16d8bb8712645774bc5", func := "example.com/shareloom/shareloom/zzlaws_root_b1.FnScalarIsReducedSha256", spec := "fnScalarIsReducedSha256", unfollowed := true, recurses := true, apart := false }
def FnScalarIsReducedSha256Said : Prop := fnScalarIsReducedSha256Row.holds Try.pinned (OpenSpec.ofChange fnScalarIsReducedSha256Spec)

/-- ITS FALSE NEIGHBOUR: 'it returns false'. Refute it at one input. -/
def fnScalarIsReducedSha256Wrong : ChangeSpec := { name := "fnScalarIsReducedSha256", fn := fun _ => fun
  | [d] => { results := [.lit (.bool false)], args := [d] }
  | _ => none }
def FnScalarIsReducedSha256WrongFalsely : Prop := fnScalarIsReducedSha256Row.holds Try.pinned (OpenSpec.ofChange fnScalarIsReducedSha256Wrong)

/-- 'zzlaws_root_b1.FnScalarLeavesTranscript': WHATEVER THE INPUT: true; the input reads as it did. -/
def fnScalarLeavesTranscriptSpec : ChangeSpec := { name := "fnScalarLeavesTranscript", fn := fun _ => fun
  | [d1, d2] => { results := [.lit (.bool true)], args := [d1, d2] }
  | _ => none }
def fnScalarLeavesTranscriptRow : OpenClaim := { program := "qxb6609552a", sum := "e71723be135b2d4c1ec12562c7aa7a7923bfd60e60a5b16d8bb8712645774bc5", func := "example.com/shareloom/shareloom/zzlaws_root_b1.FnScalarLeavesTranscript", spec := "fnScalarLeavesTranscript", unfollowed := true, recurses := true, apart := false }
def FnScalarLeavesTranscriptSaid : Prop := fnScalarLeavesTranscriptRow.holds Try.pinned (OpenSpec.ofChange fnScalarLeavesTranscriptSpec)

/-- ITS FALSE NEIGHBOUR: 'it returns false'. Refute it at one input. -/
def fnScalarLeavesTranscriptWrong : ChangeSpec := { name := "fnScalarLeavesTranscript", fn := fun _ => fun
  | [d1, d2] => { results := [.lit (.bool false)], args := [d1, d2] }
  | _ => none }
def FnScalarLeavesTranscriptWrongFalsely : Prop := fnScalarLeavesTranscriptRow.holds Try.pinned (OpenSpec.ofChange fnScalarLeavesTranscriptWrong)

end Rows
end Go.Proofs.Qxb6609552a

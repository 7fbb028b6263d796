/-
  NARROWER THAN 'FOR EVERY INPUT', by the rows' own cells (each row's printed sentence says how): FnNewListsExact: laid · FnNewListsAgreesWithWith: laid · FnListsWithExact: laid · FnListsChangedEmptiesNamed: laid.
  DERIVED. THE GIVEN ROWS OF THIS SEAT. 4 by the template 'for every input the law returns true; each argument reads behind the call as it read before'; 0 by the template 'total and deterministic' (their statements: Qxb6609544aDoorTotals.lean).
  GIVEN WITH THE SEED: the statements are not yours to turn. If you find one false, say at which input.
  Laid BY PROGRAM, IN A SANDBOX (cutbox-rows.mjs): the forced cells as the released guide's own fill.sh prints them over the translation 3549cabc4bcf30a9… (all of the seat's roots in one cut). By AI agents, Wed Nov 11 2026. No macro, syntax, notation, axiom, sorry.
-/
import Derived.Test.Qxb6609544aDoorChecked
import GoSem.Claim
import GoSem.ClaimJoined
import GoSem.ClaimMapViews
import Derived.JoinedTies
import Derived.KernelRfl
namespace Go.Proofs.Qxb6609544aDoor
/- THE CELL 'sum', in the pinned program and in every row, IS THE sha256 OF THE DUMP (.gsa) THAT Qxb6609544aDoorProg.lean LOADS. Nothing in Lean hashes anything: it is a label: what it is worth is what the hold of that sum in a sandbox is worth. -/
noncomputable def Tryd.pinned : Pinned := { name := "qxb6609544adoor", sum := "3549cabc4bcf30a9afa68d3ac69f750070e2e7ca70ef96622ae7eaa9fa5e7871", checked := Tryd.checked }
namespace Rows
def none {H : Type} : Left H := { results := [], args := [] }

/- WHAT THE LISTED PACKAGE-LEVEL VARIABLES READ AS WHEN THE CALL BEGINS. Each datum BY PROGRAM (the guide's laid-datum.mjs) off the statement by which the dump's own 'gosem.cut.vars' lays the variable. In a bare row this is a premise. The card (Qxb6609544aDoorCards.lean) ties it to the program's text. -/
def laid_net_netip_z4 {H : Type} : DataW H := .agg [.ptr (.agg [.lit (.bool false), .lit (.string [])])]
def laid_net_netip_z0 {H : Type} : DataW H := .agg [.nil]

/-- 'zzlaws_pkg_iplist_b1.FnNewListsExact': WHATEVER THE INPUT: true; the input reads as it did. -/
def fnNewListsExactSpec : ChangeSpec := { name := "fnNewListsExact", fn := fun _ => fun
  | [d1, d2] => { results := [.lit (.bool true)], args := [d1, d2] }
  | _ => none }
def fnNewListsExactRow : OpenClaim := { program := "qxb6609544adoor", sum := "3549cabc4bcf30a9afa68d3ac69f750070e2e7ca70ef96622ae7eaa9fa5e7871", func := "example.com/tidewall/tidewall/zzlaws_pkg_iplist_b1.FnNewListsExact", spec := "fnNewListsExact", unfollowed := true, recurses := true, named := ["net/netip.z4", "net/netip.z0"], apart := false, laid := [("net/netip.z4", laid_net_netip_z4), ("net/netip.z0", laid_net_netip_z0)] }
def FnNewListsExactSaid : Prop := fnNewListsExactRow.holds Tryd.pinned (OpenSpec.ofChange fnNewListsExactSpec)

/-- ITS FALSE NEIGHBOUR: 'it returns false'. Refute it at one input. -/
def fnNewListsExactWrong : ChangeSpec := { name := "fnNewListsExact", fn := fun _ => fun
  | [d1, d2] => { results := [.lit (.bool false)], args := [d1, d2] }
  | _ => none }
def FnNewListsExactWrongFalsely : Prop := fnNewListsExactRow.holds Tryd.pinned (OpenSpec.ofChange fnNewListsExactWrong)

/-- 'zzlaws_pkg_iplist_b1.FnNewListsAgreesWithWith': WHATEVER THE INPUT: true; the input reads as it did. -/
def fnNewListsAgreesWithWithSpec : ChangeSpec := { name := "fnNewListsAgreesWithWith", fn := fun _ => fun
  | [d1, d2] => { results := [.lit (.bool true)], args := [d1, d2] }
  | _ => none }
def fnNewListsAgreesWithWithRow : OpenClaim := { program := "qxb6609544adoor", sum := "3549cabc4bcf30a9afa68d3ac69f750070e2e7ca70ef96622ae7eaa9fa5e7871", func := "example.com/tidewall/tidewall/zzlaws_pkg_iplist_b1.FnNewListsAgreesWithWith", spec := "fnNewListsAgreesWithWith", unfollowed := true, recurses := true, named := ["net/netip.z4", "net/netip.z0"], apart := false, laid := [("net/netip.z4", laid_net_netip_z4), ("net/netip.z0", laid_net_netip_z0)] }
def FnNewListsAgreesWithWithSaid : Prop := fnNewListsAgreesWithWithRow.holds Tryd.pinned (OpenSpec.ofChange fnNewListsAgreesWithWithSpec)

/-- ITS FALSE NEIGHBOUR: 'it returns false'. Refute it at one input. -/
def fnNewListsAgreesWithWithWrong : ChangeSpec := { name := "fnNewListsAgreesWithWith", fn := fun _ => fun
  | [d1, d2] => { results := [.lit (.bool false)], args := [d1, d2] }
  | _ => none }
def FnNewListsAgreesWithWithWrongFalsely : Prop := fnNewListsAgreesWithWithRow.holds Tryd.pinned (OpenSpec.ofChange fnNewListsAgreesWithWithWrong)

/-- 'zzlaws_pkg_iplist_b1.FnListsWithExact': WHATEVER THE INPUT: true; the input reads as it did. -/
def fnListsWithExactSpec : ChangeSpec := { name := "fnListsWithExact", fn := fun _ => fun
  | [d1, d2, d3, d4] => { results := [.lit (.bool true)], args := [d1, d2, d3, d4] }
  | _ => none }
def fnListsWithExactRow : OpenClaim := { program := "qxb6609544adoor", sum := "3549cabc4bcf30a9afa68d3ac69f750070e2e7ca70ef96622ae7eaa9fa5e7871", func := "example.com/tidewall/tidewall/zzlaws_pkg_iplist_b1.FnListsWithExact", spec := "fnListsWithExact", unfollowed := true, recurses := true, named := ["net/netip.z4", "net/netip.z0"], apart := false, laid := [("net/netip.z4", laid_net_netip_z4), ("net/netip.z0", laid_net_netip_z0)] }
def FnListsWithExactSaid : Prop := fnListsWithExactRow.holds Tryd.pinned (OpenSpec.ofChange fnListsWithExactSpec)

/-- ITS FALSE NEIGHBOUR: 'it returns false'. Refute it at one input. -/
def fnListsWithExactWrong : ChangeSpec := { name := "fnListsWithExact", fn := fun _ => fun
  | [d1, d2, d3, d4] => { results := [.lit (.bool false)], args := [d1, d2, d3, d4] }
  | _ => none }
def FnListsWithExactWrongFalsely : Prop := fnListsWithExactRow.holds Tryd.pinned (OpenSpec.ofChange fnListsWithExactWrong)

/-- 'zzlaws_pkg_iplist_b1.FnListsChangedEmptiesNamed': WHATEVER THE INPUT: true; the input reads as it did. -/
def fnListsChangedEmptiesNamedSpec : ChangeSpec := { name := "fnListsChangedEmptiesNamed", fn := fun _ => fun
  | [d1, d2, d3, d4] => { results := [.lit (.bool true)], args := [d1, d2, d3, d4] }
  | _ => none }
def fnListsChangedEmptiesNamedRow : OpenClaim := { program := "qxb6609544adoor", sum := "3549cabc4bcf30a9afa68d3ac69f750070e2e7ca70ef96622ae7eaa9fa5e7871", func := "example.com/tidewall/tidewall/zzlaws_pkg_iplist_b1.FnListsChangedEmptiesNamed", spec := "fnListsChangedEmptiesNamed", unfollowed := true, recurses := true, named := ["net/netip.z4", "net/netip.z0"], apart := false, laid := [("net/netip.z4", laid_net_netip_z4), ("net/netip.z0", laid_net_netip_z0)] }
def FnListsChangedEmptiesNamedSaid : Prop := fnListsChangedEmptiesNamedRow.holds Tryd.pinned (OpenSpec.ofChange fnListsChangedEmptiesNamedSpec)

/-- ITS FALSE NEIGHBOUR: 'it returns false'. Refute it at one input. -/
def fnListsChangedEmptiesNamedWrong : ChangeSpec := { name := "fnListsChangedEmptiesNamed", fn := fun _ => fun
  | [d1, d2, d3, d4] => { results := [.lit (.bool false)], args := [d1, d2, d3, d4] }
  | _ => none }
def FnListsChangedEmptiesNamedWrongFalsely : Prop := fnListsChangedEmptiesNamedRow.holds Tryd.pinned (OpenSpec.ofChange fnListsChangedEmptiesNamedWrong)

end Rows
end Go.Proofs.Qxb6609544aDoor

/-
  DERIVED. GIVEN WITH THE SEED: THE CARDS: each row of Qxb6609544aDoorRows.lean that lists a variable, with what it lists TIED to the program's text (the seventh form; the later family's looks); each row that meets fmt, with fmt's text TOLD by the authors' own Lean function (tested against real Go, not proved from fmt's source: count such statements apart). THE CARD IS WHAT COUNTS. Prove the row's statement (the work); the ties are given (Qxb6609544aDoorTie.lean); close each card by the builder's one call (the guide's Derived/Test/ToyasCard.lean, 'card_holds'). Laid BY PROGRAM, IN A SANDBOX (cutbox-door.mjs). By AI agents, Wed Nov 11 2026. No macro, syntax, notation, axiom, sorry.
-/
import Derived.Test.Qxb6609544aDoorRows
import GoSem.ClaimSeven
namespace Go.Proofs.Qxb6609544aDoor
namespace Rows

/-- THE TIED CARD OF 'zzlaws_pkg_iplist_b1.FnNewListsExact'. -/
def fnNewListsExactCard : Claim7 := { stood := { row := fnNewListsExactRow, standIns := [], harness := (true, "530557e517d668005acbdcb70e8b7827b6231977fde6abf6170b851619305959"), looks := false }, kinds := [], alts := [], laidByText := true, laidKinds := [.called, .zero], laidTests := true, laidLooks := .later }
def FnNewListsExactCardSaid : Prop := Claim7.holds Tryd.pinned (.plain (OpenSpec.ofChange fnNewListsExactSpec)) fnNewListsExactCard

/-- THE TIED CARD OF 'zzlaws_pkg_iplist_b1.FnNewListsAgreesWithWith'. -/
def fnNewListsAgreesWithWithCard : Claim7 := { stood := { row := fnNewListsAgreesWithWithRow, standIns := [], harness := (true, "530557e517d668005acbdcb70e8b7827b6231977fde6abf6170b851619305959"), looks := false }, kinds := [], alts := [], laidByText := true, laidKinds := [.called, .zero], laidTests := true, laidLooks := .later }
def FnNewListsAgreesWithWithCardSaid : Prop := Claim7.holds Tryd.pinned (.plain (OpenSpec.ofChange fnNewListsAgreesWithWithSpec)) fnNewListsAgreesWithWithCard

/-- THE TIED CARD OF 'zzlaws_pkg_iplist_b1.FnListsWithExact'. -/
def fnListsWithExactCard : Claim7 := { stood := { row := fnListsWithExactRow, standIns := [], harness := (true, "530557e517d668005acbdcb70e8b7827b6231977fde6abf6170b851619305959"), looks := false }, kinds := [], alts := [], laidByText := true, laidKinds := [.called, .zero], laidTests := true, laidLooks := .later }
def FnListsWithExactCardSaid : Prop := Claim7.holds Tryd.pinned (.plain (OpenSpec.ofChange fnListsWithExactSpec)) fnListsWithExactCard

/-- THE TIED CARD OF 'zzlaws_pkg_iplist_b1.FnListsChangedEmptiesNamed'. -/
def fnListsChangedEmptiesNamedCard : Claim7 := { stood := { row := fnListsChangedEmptiesNamedRow, standIns := [], harness := (true, "530557e517d668005acbdcb70e8b7827b6231977fde6abf6170b851619305959"), looks := false }, kinds := [], alts := [], laidByText := true, laidKinds := [.called, .zero], laidTests := true, laidLooks := .later }
def FnListsChangedEmptiesNamedCardSaid : Prop := Claim7.holds Tryd.pinned (.plain (OpenSpec.ofChange fnListsChangedEmptiesNamedSpec)) fnListsChangedEmptiesNamedCard
end Rows
end Go.Proofs.Qxb6609544aDoor

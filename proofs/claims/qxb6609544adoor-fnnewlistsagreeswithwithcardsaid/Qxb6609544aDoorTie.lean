/-
  DERIVED. GIVEN WITH THE SEED: THE PROGRAM's TIES (one call each: nine closed facts by the kernel) AND EACH ROW's TIE, after the 31st guide's Derived/Test/Toyas{Tie, Card}.lean. No idea stands in it: it is a product of the set-up. Laid BY PROGRAM, IN A SANDBOX (cutbox-door.mjs). By AI agents, Wed Nov 11 2026. No macro, syntax, notation, axiom, sorry.
-/
import Derived.Test.Qxb6609544aDoorRows
import Derived.LaidByTextLater
import Derived.SevenTiedAt
import Derived.LaidSub
import Derived.LaidOnce
namespace Go.Proofs.Qxb6609544aDoor
open Go
set_option maxRecDepth 100000
theorem seatTie1 : Tryd.prog.laidByTextLater [("net/netip.z4", Rows.laid_net_netip_z4), ("net/netip.z0", Rows.laid_net_netip_z0)] [.called, .zero] true :=
  Program.laidByTextLater_by_one 15 8 3 (by kernel_rfl) (by kernel_rfl) (by kernel_rfl) (by kernel_rfl) (by kernel_rfl) (by kernel_rfl) (fun _ _ => by kernel_rfl)
theorem noOwnUnsafe : Tryd.pinned.checked.prog.headLifts.contains "ownunsafe" = false := by kernel_rfl
theorem tie : Tryd.prog.laidByTextLater [("net/netip.z4", Rows.laid_net_netip_z4), ("net/netip.z0", Rows.laid_net_netip_z0)] [.called, .zero] true :=
  Program.laidByTextLater.sub seatTie1 ["net/netip.z4", "net/netip.z0"] (by kernel_rfl) (by kernel_rfl)
theorem fnNewListsExact_row_tie : Rows.fnNewListsExactRow.laidByTextAt .later Tryd.pinned [.called, .zero] true :=
  OpenClaim.laidByTextAt_later rfl rfl tie noOwnUnsafe
theorem fnNewListsAgreesWithWith_row_tie : Rows.fnNewListsAgreesWithWithRow.laidByTextAt .later Tryd.pinned [.called, .zero] true :=
  OpenClaim.laidByTextAt_later rfl rfl tie noOwnUnsafe
theorem fnListsWithExact_row_tie : Rows.fnListsWithExactRow.laidByTextAt .later Tryd.pinned [.called, .zero] true :=
  OpenClaim.laidByTextAt_later rfl rfl tie noOwnUnsafe
theorem fnListsChangedEmptiesNamed_row_tie : Rows.fnListsChangedEmptiesNamedRow.laidByTextAt .later Tryd.pinned [.called, .zero] true :=
  OpenClaim.laidByTextAt_later rfl rfl tie noOwnUnsafe
end Go.Proofs.Qxb6609544aDoor

/-
  The proof of 'Rows.FnNewListsAgreesWithWithCardSaid': the walk ('law'), the row ('over'), the card ('card').
-/
import Derived.Test.Qxb6609544aDoorLaw
import Derived.Test.Qxb6609544aDoorRow
import Derived.Test.Qxb6609544aDoorCard
namespace Go.Proofs.Qxb6609544aDoor.fnNewListsAgreesWithWith

theorem rowHolds : Rows.FnNewListsAgreesWithWithSaid := over fun zp a b n c m d L M w hz hL hM hn hm hxL hxM => law zp a b n c m d L M w hz hL hM hn hm hxL hxM
/-- THE STATEMENT -/
theorem proved : Rows.FnNewListsAgreesWithWithCardSaid := card rowHolds
#print axioms proved
end Go.Proofs.Qxb6609544aDoor.fnNewListsAgreesWithWith

/-
  THE PROOF OF 'Rows.FnListsChangedEmptiesNamedCardSaid': the law's walk (law6), the row over it (over6), the card over the row (card6).
-/
import Derived.Test.Qxb6609544aDoorLaw6
import Derived.Test.Qxb6609544aDoorCard6
namespace Go.Proofs.Qxb6609544aDoor.fnListsChangedEmptiesNamed

/-- THE STATEMENT -/
theorem proved : Rows.FnListsChangedEmptiesNamedCardSaid :=
  card6 law6
#print axioms proved
end Go.Proofs.Qxb6609544aDoor.fnListsChangedEmptiesNamed

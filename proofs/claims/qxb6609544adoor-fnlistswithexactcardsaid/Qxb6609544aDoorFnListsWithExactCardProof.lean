/-
  THE PROOF OF 'Rows.FnListsWithExactCardSaid': the law's walk (law5), the row over it (over5), the card over the row (card5).
-/
import Derived.Test.Qxb6609544aDoorLaw5
import Derived.Test.Qxb6609544aDoorCard5
namespace Go.Proofs.Qxb6609544aDoor.fnListsWithExact

/-- THE STATEMENT -/
theorem proved : Rows.FnListsWithExactCardSaid :=
  card5 law5
#print axioms proved
end Go.Proofs.Qxb6609544aDoor.fnListsWithExact

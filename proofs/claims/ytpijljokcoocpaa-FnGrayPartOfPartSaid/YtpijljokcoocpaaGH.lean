/-
  The frame behind two steps, for the laws on gray images. No condition.
-/
import Derived.Test.YtpijljokcoocpaaH1
import Derived.Test.YtpijljokcoocpaaS4
import Derived.Test.YtpijljokcoocpaaPL
import Derived.Test.YtpijljokcoocpaaK0
import Derived.Test.YtpijljokcoocpaaK1
import Derived.Test.YtpijljokcoocpaaX1
namespace Go.Proofs.Ytpijljokcoocpaa
open Go.RowKit
theorem bst {X Y w : World} (bc : Below X.heap.size X Y) (h : Below w.heap.size w X) : Below w.heap.size w Y := Go.Proofs.Ytpijljokcoocpaa.bs bc h
end Go.Proofs.Ytpijljokcoocpaa

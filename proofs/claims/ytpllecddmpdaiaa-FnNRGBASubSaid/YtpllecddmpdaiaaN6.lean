/-
  Contracts: reads and writes of an NRGBA image at a point that is there. No condition.
-/
import Derived.Test.YtpllecddmpdaiaaN5
namespace Go.Proofs.Ytpllecddmpdaiaa
open Go.ChangeShapes Go.WideShapes Go.ChangeAt Go.RowKit
set_option linter.unusedVariables false
set_option linter.unusedSimpArgs false

theorem grown_set4 {w w1 : World} {g i1 i2 i3 i4 : Nat} {u1 u2 u3 u4 : Value} (bw : Below w.heap.size w w1) : w.grownBy ((((w1.setCell ⟨g, i1, none⟩ u1).setCell ⟨g, i2, none⟩ u2).setCell ⟨g, i3, none⟩ u3).setCell ⟨g, i4, none⟩ u4) (some g) :=
  ⟨bw.os, bw.tape, bw.output, by simpa [World.setCell] using bw.size, fun j hj hne => by
    have hn : j ≠ g := by rintro rfl; exact hne rfl
    exact (Below.heap_setCell _ _ _ j hn).trans ((Below.heap_setCell _ _ _ j hn).trans ((Below.heap_setCell _ _ _ j hn).trans ((Below.heap_setCell _ _ _ j hn).trans (bw.block j hj))))⟩

end Go.Proofs.Ytpllecddmpdaiaa

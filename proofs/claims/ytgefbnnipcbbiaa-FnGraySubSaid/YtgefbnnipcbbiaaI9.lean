/-
  Contracts: a write to an image and a part of an image, through the thin package. No condition.
-/
import Derived.Test.YtgefbnnipcbbiaaI8
namespace Go.Proofs.Ytgefbnnipcbbiaa
open Go.ChangeShapes Go.WideShapes Go.ChangeAt Go.RowKit
set_option linter.unusedVariables false
set_option linter.unusedSimpArgs false

/-- The bytes behind a write of z at x, y. -/
noncomputable def wrAt (bs : List Int) (a b c d x y z : Int) : List Int := open Classical in if In a b c d x y then bs.set ((y - b) * (c - a) + (x - a)).toNat z else bs
theorem wrAt_in {bs : List Int} {a b c d x y z : Int} {o : Nat} (h : In a b c d x y) (ho : (y - b) * (c - a) + (x - a) = o) : wrAt bs a b c d x y z = bs.set o z := by
  unfold wrAt; rw [if_pos h, ho]; rfl
theorem wrAt_out {bs : List Int} {a b c d x y z : Int} (h : ¬ In a b c d x y) : wrAt bs a b c d x y z = bs := by unfold wrAt; rw [if_neg h]
theorem wrAt_length (bs : List Int) (a b c d x y z : Int) : (wrAt bs a b c d x y z).length = bs.length := by
  unfold wrAt; split <;> simp

end Go.Proofs.Ytgefbnnipcbbiaa

/-
  Contracts: the points in two rectangles, and a part of an image. No condition.
-/
import Derived.Test.YtpllecddmpdaiaaI1
namespace Go.Proofs.Ytpllecddmpdaiaa
open Go.ChangeShapes Go.WideShapes Go.ChangeAt Go.RowKit
set_option linter.unusedVariables false
set_option linter.unusedSimpArgs false

/-- The greater of two numbers (as a test tells it). -/
def Gr (p a A : Int) : Prop := (p < a ∧ A = a) ∨ (a ≤ p ∧ A = p)
/-- The lesser of two numbers (as a test tells it). -/
def Ls (r c C : Int) : Prop := (c < r ∧ C = c) ∨ (r ≤ c ∧ C = r)
theorem Gr.ex (p a : Int) : ∃ A, Gr p a A := by
  by_cases h : p < a
  · exact ⟨a, .inl ⟨h, rfl⟩⟩
  · exact ⟨p, .inr ⟨by omega, rfl⟩⟩
theorem Ls.ex (p a : Int) : ∃ A, Ls p a A := by
  by_cases h : a < p
  · exact ⟨a, .inl ⟨h, rfl⟩⟩
  · exact ⟨p, .inr ⟨by omega, rfl⟩⟩

end Go.Proofs.Ytpllecddmpdaiaa

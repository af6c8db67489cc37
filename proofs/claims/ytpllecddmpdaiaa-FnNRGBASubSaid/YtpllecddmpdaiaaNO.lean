/-
  Contract: whether an NRGBA image is opaque. No condition.
-/
import Derived.Test.YtpllecddmpdaiaaN6
namespace Go.Proofs.Ytpllecddmpdaiaa
open Go.ChangeShapes Go.WideShapes Go.ChangeAt Go.RowKit
set_option linter.unusedVariables false
set_option linter.unusedSimpArgs false

/-- The last byte of each of the first M pixels is 255. -/
def Opq (bs : List Int) (M : Nat) : Prop := ∀ p, p < M → bs.getD (4 * p + 3) 0 = 255
instance (bs : List Int) (M : Nat) : Decidable (Opq bs M) := by unfold Opq; infer_instance
def opqB (bs : List Int) (M : Nat) : Bool := decide (Opq bs M)
theorem opqB_yes {bs : List Int} {M : Nat} (h : Opq bs M) : opqB bs M = true := decide_eq_true h
theorem opqB_no {bs : List Int} {M p : Nat} (hp : p < M) (h : ¬ bs.getD (4 * p + 3) 0 = 255) : opqB bs M = false := decide_eq_false fun k => h (k p hp)
theorem Opq.succ {bs : List Int} {M : Nat} (h : Opq bs M) (k : bs.getD (4 * M + 3) 0 = 255) : Opq bs (M + 1) := fun p hp => by
  rcases Nat.lt_succ_iff_lt_or_eq.1 hp with h1 | rfl
  · exact h p h1
  · exact k
theorem Opq.eq {bs : List Int} {M M' : Nat} (h : Opq bs M) (e : M = M') : Opq bs M' := e ▸ h

end Go.Proofs.Ytpllecddmpdaiaa

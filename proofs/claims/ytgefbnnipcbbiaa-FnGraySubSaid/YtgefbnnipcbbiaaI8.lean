/-
  Contracts of the thin package's functions on images, but for the scripts. No condition.
-/
import Derived.Test.YtgefbnnipcbbiaaI7
namespace Go.Proofs.Ytgefbnnipcbbiaa
open Go.ChangeShapes Go.WideShapes Go.ChangeAt Go.RowKit
set_option linter.unusedVariables false
set_option linter.unusedSimpArgs false

theorem area_le {a b c d : Int} {N : Nat} (h3 : 0 ≤ c - a) (h4 : c - a ≤ 1000) (h5 : 0 ≤ d - b) (h6 : d - b ≤ 1000) (hN : (c - a) * (d - b) = N) : N ≤ 1000000 := by
  have k4 : (c - a) * (d - b) ≤ 1000 * 1000 := Int.mul_le_mul h4 h6 h5 (by decide)
  omega
/-- The place of a point that is there. -/
theorem place_lt {a b c d x y : Int} {N : Nat} (hN : (c - a) * (d - b) = N) (hin : In a b c d x y) : ∃ o : Nat, (y - b) * (c - a) + (x - a) = o ∧ o < N := by
  obtain ⟨h1, h2, h3, h4⟩ := hin
  have k1 : 0 ≤ (y - b) * (c - a) := Int.mul_nonneg (by omega) (by omega)
  have k2 : (y - b) * (c - a) ≤ (d - b - 1) * (c - a) := Int.mul_le_mul_of_nonneg_right (by omega) (by omega)
  have k3 : (d - b - 1) * (c - a) = N - (c - a) := by rw [← hN, Int.mul_comm (c - a), Int.sub_mul, Int.one_mul]
  exact ⟨((y - b) * (c - a) + (x - a)).toNat, by omega, by omega⟩

/-- Reading the pixel at x, y: its byte, or 0 outside. -/
noncomputable def rdAt (bs : List Int) (a b c d x y : Int) : Int := open Classical in if In a b c d x y then bs.getD ((y - b) * (c - a) + (x - a)).toNat 0 else 0
theorem rdAt_in {bs : List Int} {a b c d x y : Int} {o : Nat} (h : In a b c d x y) (ho : (y - b) * (c - a) + (x - a) = o) : rdAt bs a b c d x y = bs.getD o 0 := by
  unfold rdAt; rw [if_pos h, ho]; rfl
theorem rdAt_out {bs : List Int} {a b c d x y : Int} (h : ¬ In a b c d x y) : rdAt bs a b c d x y = 0 := by unfold rdAt; rw [if_neg h]

theorem rdAt_byte {bs : List Int} {a b c d x y : Int} (h : ∀ z ∈ bs, 0 ≤ z ∧ z ≤ 255) : 0 ≤ rdAt bs a b c d x y ∧ rdAt bs a b c d x y ≤ 255 := by
  unfold rdAt
  split
  · generalize ((y - b) * (c - a) + (x - a)).toNat = i
    by_cases hi : i < bs.length
    · exact h _ (by simp [List.getD, hi])
    · simp [List.getD, List.getElem?_eq_none (Nat.le_of_not_lt hi)]
  · omega

end Go.Proofs.Ytgefbnnipcbbiaa

/-
  A script that is cut in two, by a step back to the whole image between. No condition.
-/
import Derived.Test.YtpijljokcoocpaaR5
namespace Go.Proofs.Ytpijljokcoocpaa
open Go.ChangeShapes Go.WideShapes Go.ChangeAt Go.RowKit
set_option linter.unusedVariables false
set_option linter.unusedSimpArgs false

theorem grun_app (R : Q4) (g : GS) (xs ys : List Stp) : grun R g (xs ++ ys) = grun R (grun R g xs) ys := by simp [grun]
theorem grun_rest (R : Q4) (g g' : GS) (ss : List Stp) (hv : g.v = g'.v) (hb : g.bs = g'.bs) :
    ∃ r, (grun R g ss).cs = g.cs ++ r ∧ (grun R g' ss).cs = g'.cs ++ r ∧ (grun R g ss).bs = (grun R g' ss).bs := by
  induction ss generalizing g g' with
  | nil => exact ⟨[], by simp [grun], by simp [grun], hb⟩
  | cons s ss ih =>
    obtain ⟨r, h1, h2, h3⟩ := ih (gstep R g s) (gstep R g' s) (by simp only [gstep, hv]) (by simp only [gstep, hv, hb])
    refine ⟨(if s.k = 2 then [seen R g'.v g'.bs s.x s.y] else []) ++ r, ?_, ?_, h3⟩
    · show (grun R (gstep R g s) ss).cs = _
      rw [h1]
      simp only [gstep, hv, hb]
      by_cases hk : s.k = 2 <;> simp [hk]
    · show (grun R (gstep R g' s) ss).cs = _
      rw [h2]
      simp only [gstep]
      by_cases hk : s.k = 2 <;> simp [hk]
/-- The step back to the whole image. -/
def whl : Stp := ⟨5, 0, 0, ⟨0, 0, 0, 0⟩, ⟨0, 0, 0, 0⟩⟩
theorem whl_ok : whl.ok := ⟨by unfold I64 whl; dsimp only; omega, zero_ok, zero_ok, ⟨zero_ok, zero_ok, zero_ok, zero_ok⟩, ⟨zero_ok, zero_ok, zero_ok, zero_ok⟩⟩
theorem split_law (R : Q4) (N : Nat) (zs : List Int) (xs ys : List Stp) :
    (grun R (gini R (byt N zs)) (xs ++ whl :: ys)).cs = (grun R (gini R (byt N zs)) xs).cs ++ (grun R (gini R (byt N (grun R (gini R (byt N zs)) xs).bs)) ys).cs ∧
    (grun R (gini R (byt N zs)) (xs ++ whl :: ys)).bs = (grun R (gini R (byt N (grun R (gini R (byt N zs)) xs).bs)) ys).bs := by
  have G := (gini_ok R N zs).run xs
  have e : grun R (gini R (byt N zs)) (xs ++ whl :: ys) = grun R (gstep R (grun R (gini R (byt N zs)) xs) whl) ys := by rw [grun_app]; rfl
  rw [e]
  generalize grun R (gini R (byt N zs)) xs = g1 at G
  rw [byt_self G.len G.byte, gstep5 _ _ _ rfl]
  obtain ⟨r, h1, h2, h3⟩ := grun_rest R { g1 with v := some R, ins := g1.ins ∧ InsS g1.v whl } (gini R g1.bs) ys rfl rfl
  exact ⟨by rw [h1, h2]; rfl, h3⟩
end Go.Proofs.Ytpijljokcoocpaa

/-
  Colors put behind a palette: what is nearest then. No condition.
-/
import Derived.Test.YtbhccckfooobcaaP9
import Derived.Test.YtbhccckfooobcaaAP
namespace Go.Proofs.Ytbhccckfooobcaa
open Go.ChangeShapes Go.WideShapes Go.ChangeAt Go.RowKit
set_option linter.unusedVariables false
set_option linter.unusedSimpArgs false

theorem near_more {c : Q4} {qs rs : List Q4} {i k : Nat} (h0 : 0 < qs.length) (hi : Near c qs i) (hk : Near c (qs ++ rs) k) : k = i ∨ (qs.length ≤ k ∧ dist ((qs ++ rs).getD k default) c < dist (qs.getD i default) c) := by
  have hil := hi.lt h0
  have hi' := hi
  have getL : ∀ j, j < qs.length → (qs ++ rs).getD j default = qs.getD j default := fun j hj => by simp [List.getD, List.getElem?_append_left hj]
  rcases hk with ⟨h, _⟩ | ⟨b1, b2, b3⟩
  · exfalso
    have := congrArg List.length h
    rw [List.length_append, List.length_nil] at this
    omega
  · by_cases hlt : k < qs.length
    · left
      refine Near.unique (c := c) (qs := qs) (.inr ⟨hlt, fun j hj => ?_, fun j hj => ?_⟩) hi
      · have := b2 j (by simp; omega)
        rw [getL k hlt, getL j hj] at this
        exact this
      · have := b3 j hj
        rw [getL k hlt, getL j (by omega)] at this
        exact this
    · right
      refine ⟨by omega, ?_⟩
      have := b3 i (by omega)
      rw [getL i hil] at this
      exact this
theorem opq_app {qs rs : List Q4} (h : Opq qs) (k : Opq rs) : Opq (qs ++ rs) := fun x hx => by
  rcases List.mem_append.1 hx with hx | hx
  · exact h x hx
  · exact k x hx
theorem col_diff (a b c d : Int) (W : World) : (binOp .neq 25 (.agg #[.int .i64 a, .int .i64 b, .int .i64 c, .int .i64 d]) (.agg #[.int .i64 a, .int .i64 b, .int .i64 c, .int .i64 d])).run Try.prog W = .ok (.bool false) W := by
  have hst : Try.prog.stoodInHeld 25 = false := by kernel_rfl
  rw [run_neq_struct, run_equalIn_agg _ _ _ _ _ (by simp [Program.fieldsOf, Try.underlying25]) hst]
  simp [Program.fieldsOf, Try.underlying25, Op.eqFields, go_sem]
theorem flat_one (l : List Q4) : ∀ u ∈ flat l, u.oneCell' = true := by
  intro u hu
  obtain ⟨q, _, hq⟩ := List.mem_flatMap.1 hu
  simp only [List.mem_cons, List.not_mem_nil, or_false] at hq
  rcases hq with rfl | rfl | rfl | rfl <;> rfl
theorem own_slc {w : World} {base e size n : Nat} {v : Value} {xs : List Value} (h : w.ownsRow base e size v n xs) : ∃ A c, v = .slice A n c := by
  rcases h.2 with ⟨rfl, rfl⟩ | ⟨g, cap, cur, rfl, _⟩
  · exact ⟨none, 0, rfl⟩
  · exact ⟨_, cap, rfl⟩

end Go.Proofs.Ytbhccckfooobcaa

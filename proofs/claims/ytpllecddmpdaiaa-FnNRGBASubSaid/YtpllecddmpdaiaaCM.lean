/-
  Contract: the points in two rectangles, by the reference. No condition.
-/
import Derived.Test.YtpllecddmpdaiaaR0
namespace Go.Proofs.Ytpllecddmpdaiaa
open Go.ChangeShapes Go.WideShapes Go.ChangeAt Go.RowKit
set_option linter.unusedVariables false
set_option linter.unusedSimpArgs false

set_option maxRecDepth 100000 in
set_option maxHeartbeats 4000000 in
theorem sCommon_yes (a b c d p q r s A B C D : Int) (hA : Gr a p A) (hB : Gr b q B) (hC : Ls c r C) (hD : Ls d s D) (h1 : A < C) (h2 : B < D) (w : World) :
    Calls Try.prog 5 #[.agg #[.int .i64 a, .int .i64 b, .int .i64 c, .int .i64 d], .agg #[.int .i64 p, .int .i64 q, .int .i64 r, .int .i64 s]] w fun e w' => e = .returned (.tuple #[.agg #[.int .i64 A, .int .i64 B, .int .i64 C, .int .i64 D], .bool true]) ∧ Below w.heap.size w w' := by
  rcases hA with ⟨hA, rfl⟩ | ⟨hA, rfl⟩ <;> rcases hB with ⟨hB, rfl⟩ | ⟨hB, rfl⟩ <;> rcases hC with ⟨hC, rfl⟩ | ⟨hC, rfl⟩ <;> rcases hD with ⟨hD, rfl⟩ | ⟨hD, rfl⟩
  all_goals
    go_enter Try.func5, Try.ntmps5
    go_wp2
    exact bodyPost_ret (v := .tuple #[.agg #[.int .i64 A, .int .i64 B, .int .i64 C, .int .i64 D], .bool true]) (by simp [results, Try.results5, go_sem]) rfl ⟨rfl, by repeat' (first | exact Below.refl _ _ | refine bsa ?_ | (refine bss ?_ ?_) | omega)⟩

set_option maxRecDepth 100000 in
set_option maxHeartbeats 4000000 in
theorem sCommon_no (a b c d p q r s A B C D : Int) (hA : Gr a p A) (hB : Gr b q B) (hC : Ls c r C) (hD : Ls d s D) (h1 : C ≤ A ∨ D ≤ B) (w : World) :
    Calls Try.prog 5 #[.agg #[.int .i64 a, .int .i64 b, .int .i64 c, .int .i64 d], .agg #[.int .i64 p, .int .i64 q, .int .i64 r, .int .i64 s]] w fun e w' => e = .returned (.tuple #[.agg #[.int .i64 0, .int .i64 0, .int .i64 0, .int .i64 0], .bool false]) ∧ Below w.heap.size w w' := by
  by_cases h2 : C ≤ A
  · clear h1
    rcases hA with ⟨hA, rfl⟩ | ⟨hA, rfl⟩ <;> rcases hB with ⟨hB, rfl⟩ | ⟨hB, rfl⟩ <;> rcases hC with ⟨hC, rfl⟩ | ⟨hC, rfl⟩ <;> rcases hD with ⟨hD, rfl⟩ | ⟨hD, rfl⟩
    all_goals
      go_enter Try.func5, Try.ntmps5
      go_wp2
      exact bodyPost_ret (v := .tuple #[.agg #[.int .i64 0, .int .i64 0, .int .i64 0, .int .i64 0], .bool false]) (by simp [results, Try.results5, go_sem]) rfl ⟨rfl, by repeat' (first | exact Below.refl _ _ | refine bsa ?_ | (refine bss ?_ ?_) | omega)⟩
  · have h3 : D ≤ B := by omega
    clear h1
    rcases hA with ⟨hA, rfl⟩ | ⟨hA, rfl⟩ <;> rcases hB with ⟨hB, rfl⟩ | ⟨hB, rfl⟩ <;> rcases hC with ⟨hC, rfl⟩ | ⟨hC, rfl⟩ <;> rcases hD with ⟨hD, rfl⟩ | ⟨hD, rfl⟩
    all_goals
      go_enter Try.func5, Try.ntmps5
      go_wp2
      exact bodyPost_ret (v := .tuple #[.agg #[.int .i64 0, .int .i64 0, .int .i64 0, .int .i64 0], .bool false]) (by simp [results, Try.results5, go_sem]) rfl ⟨rfl, by repeat' (first | exact Below.refl _ _ | refine bsa ?_ | (refine bss ?_ ?_) | omega)⟩

theorem gr_gmax (a p : Int) : Gr a p (gmax p a) := by
  unfold Gr gmax
  split <;> omega
theorem ls_lmin (c r : Int) : Ls c r (lmin r c) := by
  unfold Ls lmin
  split <;> omega
theorem common_some (v r q : Q4) (h : com v r = some q) (w : World) :
    Calls Try.prog 5 #[.agg #[.int .i64 v.a, .int .i64 v.b, .int .i64 v.c, .int .i64 v.d], .agg #[.int .i64 r.a, .int .i64 r.b, .int .i64 r.c, .int .i64 r.d]] w fun e w' => e = .returned (.tuple #[.agg #[.int .i64 q.a, .int .i64 q.b, .int .i64 q.c, .int .i64 q.d], .bool true]) ∧ Below w.heap.size w w' := by
  obtain ⟨rfl, h1, h2, _⟩ := com_some h
  exact sCommon_yes _ _ _ _ _ _ _ _ _ _ _ _ (gr_gmax _ _) (gr_gmax _ _) (ls_lmin _ _) (ls_lmin _ _) h1 h2 w
theorem common_none (v r : Q4) (h : com v r = none) (w : World) :
    Calls Try.prog 5 #[.agg #[.int .i64 v.a, .int .i64 v.b, .int .i64 v.c, .int .i64 v.d], .agg #[.int .i64 r.a, .int .i64 r.b, .int .i64 r.c, .int .i64 r.d]] w fun e w' => e = .returned (.tuple #[.agg #[.int .i64 0, .int .i64 0, .int .i64 0, .int .i64 0], .bool false]) ∧ Below w.heap.size w w' :=
  sCommon_no _ _ _ _ _ _ _ _ _ _ _ _ (gr_gmax _ _) (gr_gmax _ _) (ls_lmin _ _) (ls_lmin _ _) (com_none h) w
end Go.Proofs.Ytpllecddmpdaiaa

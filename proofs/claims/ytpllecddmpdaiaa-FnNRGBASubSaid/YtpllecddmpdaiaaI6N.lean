/-
  Contracts: the points in two rectangles, and a part of an image. No condition.
-/
import Derived.Test.YtpllecddmpdaiaaI6G
namespace Go.Proofs.Ytpllecddmpdaiaa
open Go.ChangeShapes Go.WideShapes Go.ChangeAt Go.RowKit
set_option linter.unusedVariables false
set_option linter.unusedSimpArgs false

set_option maxHeartbeats 4000000 in
theorem isect_none (p q r s a b c d A B C D : Int) (hA : Gr p a A) (hB : Gr q b B) (hC : Ls r c C) (hD : Ls s d D) (h1 : C ≤ A ∨ D ≤ B) (w : World) :
    Calls Try.prog 19 #[.agg #[.int .i64 p, .int .i64 q, .int .i64 r, .int .i64 s], .agg #[.int .i64 a, .int .i64 b, .int .i64 c, .int .i64 d]] w fun e w' => e = .returned (.agg #[.int .i64 0, .int .i64 0, .int .i64 0, .int .i64 0]) ∧ Below w.heap.size w w' := by
  rcases hA with ⟨hA, rfl⟩ | ⟨hA, rfl⟩ <;> rcases hB with ⟨hB, rfl⟩ | ⟨hB, rfl⟩ <;> rcases hC with ⟨hC, rfl⟩ | ⟨hC, rfl⟩ <;> rcases hD with ⟨hD, rfl⟩ | ⟨hD, rfl⟩
  all_goals
    go_enter Try.func19, Try.ntmps19
    go_wp2_with fail
    refine (empty_yes _ _ _ _ h1 _).mono ?_
    rintro e w1 ⟨rfl, b1⟩
    obtain ⟨hc, hf⟩ := bcell b1
    have z0 : w.heap.size < w.heap.size + 1 + 1 + 1 := by omega
    have z1 : w.heap.size + 1 < w.heap.size + 1 + 1 + 1 := by omega
    have z2 : w.heap.size + 2 < w.heap.size + 1 + 1 + 1 := by omega
    have z3 : w.heap.size < w.heap.size + 3 := by omega
    have z4 : w.heap.size + 2 < w.heap.size + 3 := by omega
    go_wp2
    have bw : Below w.heap.size w w1 := ((((Below.refl _ _).alloc (Nat.le_refl _) _).alloc (by simp) _).alloc (by simp; omega) _).trans (b1.mono (by simp; omega))
    exact bodyPost_ret (v := .agg #[.int .i64 0, .int .i64 0, .int .i64 0, .int .i64 0]) (by simp [results, Try.results19, go_sem, hc]) rfl ⟨rfl, (((bw.setCell (p := ⟨w.heap.size + 1 + 1, 0, none⟩) (by show _ ≤ w.heap.size + 1 + 1; omega) _).setCell (p := ⟨w.heap.size + 1 + 1, 1, none⟩) (by show _ ≤ w.heap.size + 1 + 1; omega) _).setCell (p := ⟨w.heap.size + 1 + 1, 2, none⟩) (by show _ ≤ w.heap.size + 1 + 1; omega) _).setCell (p := ⟨w.heap.size + 1 + 1, 3, none⟩) (by show _ ≤ w.heap.size + 1 + 1; omega) _⟩

end Go.Proofs.Ytpllecddmpdaiaa

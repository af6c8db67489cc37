/-
  More facts that the laws on palettes share. No condition.
-/
import Derived.Test.YtbhccckfooobcaaP8
namespace Go.Proofs.Ytbhccckfooobcaa
open Go.ChangeShapes Go.WideShapes Go.ChangeAt Go.RowKit
set_option linter.unusedVariables false
set_option linter.unusedSimpArgs false

theorem RdQuads.at {w : World} {B b off n : Nat} {qs : List Q4} (h : RdQuads w B (some ⟨b, off, none⟩) n qs) {i : Nat} (hi : i < n) :
    w.cell? ⟨b, off + i * 4, none⟩ = some (.int .i64 (qs.getD i default).a) ∧ w.cell? ⟨b, off + i * 4 + 1, none⟩ = some (.int .i64 (qs.getD i default).b) ∧ w.cell? ⟨b, off + i * 4 + 2, none⟩ = some (.int .i64 (qs.getD i default).c) ∧ w.cell? ⟨b, off + i * 4 + 3, none⟩ = some (.int .i64 (qs.getD i default).d) := by
  obtain ⟨b', off', e, _, hc⟩ := h.2.2.2 (by omega)
  injection e with e
  injection e with e1 e2
  subst e1 e2
  exact hc i hi
theorem dist_low (x q : Q4) : dist ⟨x.a % 256, x.b % 256, x.c % 256, x.d % 256⟩ q = dist x q := by
  unfold dist
  simp only [Int.emod_emod_of_dvd _ (Int.dvd_refl _)]
theorem low_ok (x : Q4) : Q4.ok ⟨x.a % 256, x.b % 256, x.c % 256, x.d % 256⟩ := by
  refine ⟨?_, ?_, ?_, ?_⟩ <;> (unfold I64; simp only; omega)
theorem far4 (p q : Q4) (hp : p.ok) (hq : q.ok) (w : World) :
    Calls Try.prog 17 #[.agg #[.int .i64 p.a, .int .i64 p.b, .int .i64 p.c, .int .i64 p.d], .agg #[.int .i64 q.a, .int .i64 q.b, .int .i64 q.c, .int .i64 q.d]] w fun e w' => e = .returned (.int .i64 (dist p q)) ∧ Below w.heap.size w w' := far_any p q hp hq w
theorem farL (x q : Q4) (hq : q.ok) (w : World) :
    Calls Try.prog 17 #[.agg #[.int .i64 (x.a % 256), .int .i64 (x.b % 256), .int .i64 (x.c % 256), .int .i64 (x.d % 256)], .agg #[.int .i64 q.a, .int .i64 q.b, .int .i64 q.c, .int .i64 q.d]] w fun e w' => e = .returned (.int .i64 (dist x q)) ∧ Below w.heap.size w w' :=
  (far_any ⟨x.a % 256, x.b % 256, x.c % 256, x.d % 256⟩ q (low_ok x) hq w).mono fun _ _ ⟨h1, h2⟩ => ⟨by rw [h1, dist_low], h2⟩
theorem lowColor4 (p : Q4) (hp : p.ok) (w : World) :
    Calls Try.prog 18 #[.agg #[.int .i64 p.a, .int .i64 p.b, .int .i64 p.c, .int .i64 p.d]] w fun e w' => e = .returned (.agg #[.int .i64 (p.a % 256), .int .i64 (p.b % 256), .int .i64 (p.c % 256), .int .i64 (p.d % 256)]) ∧ Below w.heap.size w w' := lowColor_any p hp w
theorem Near.same {c : Q4} {qs : List Q4} {x y : Q4} {i j : Nat} (h : Near c qs i) (h' : Near c qs j) (hx : x = qs.getD i default) (hy : y = qs.getD j default) : y = x := by rw [hx, hy, h.unique h']
theorem First.same {ss : List Int} {qs : List Q4} {x y : Q4} {i j : Nat} (h : First ss i) (h' : First ss j) (hx : x = qs.getD i default) (hy : y = qs.getD j default) : y = x := by rw [hx, hy, h.unique h']

end Go.Proofs.Ytbhccckfooobcaa

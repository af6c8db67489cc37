/-
  Facts that the laws on palettes share. No condition.
-/
import Derived.Test.YtbhccckfooobcaaP7
namespace Go.Proofs.Ytbhccckfooobcaa
open Go.ChangeShapes Go.WideShapes Go.ChangeAt Go.RowKit
set_option linter.unusedVariables false
set_option linter.unusedSimpArgs false

theorem opq_yes (n cp : Nat) (A : Option Addr) (qs : List Q4) (w : World) (hr : RdQuads w w.heap.size A n qs) (h : Opq qs) :
    Calls Try.prog 14 #[.slice A n cp] w fun e w' => e = .returned (.bool true) ∧ Below w.heap.size w w' :=
  (opaque_any n cp A qs w hr).mono fun _ _ ⟨h1, h2⟩ => ⟨by rw [h1, decide_eq_true h], h2⟩
theorem opq_no (n cp : Nat) (A : Option Addr) (qs : List Q4) (w : World) (hr : RdQuads w w.heap.size A n qs) (h : ¬ Opq qs) :
    Calls Try.prog 14 #[.slice A n cp] w fun e w' => e = .returned (.bool false) ∧ Below w.heap.size w w' :=
  (opaque_any n cp A qs w hr).mono fun _ _ ⟨h1, h2⟩ => ⟨by rw [h1, decide_eq_false h], h2⟩

theorem col_eql (a b c d p q r s : Int) (W : World) : (binOp .eql 25 (.agg #[.int .i64 a, .int .i64 b, .int .i64 c, .int .i64 d]) (.agg #[.int .i64 p, .int .i64 q, .int .i64 r, .int .i64 s])).run Try.prog W = .ok (.bool (a == p && b == q && c == r && d == s)) W := by
  have hst : Try.prog.stoodInHeld 25 = false := by kernel_rfl
  rw [run_eql_struct, run_equalIn_agg _ _ _ _ _ (by simp [Program.fieldsOf, Try.underlying25]) hst]
  simp [Program.fieldsOf, Try.underlying25, Op.eqFields, go_sem]
  by_cases h1 : a = p <;> by_cases h2 : b = q <;> by_cases h3 : c = r <;> by_cases h4 : d = s <;> simp [*]
theorem col_same (a b c d : Int) (W : World) : (binOp .eql 25 (.agg #[.int .i64 a, .int .i64 b, .int .i64 c, .int .i64 d]) (.agg #[.int .i64 a, .int .i64 b, .int .i64 c, .int .i64 d])).run Try.prog W = .ok (.bool true) W := by
  rw [col_eql]; simp

/-- The nearest of a list of opaque colors that holds x is x itself. -/
theorem near_own {qs : List Q4} {x y : Q4} {i : Nat} (hO : Opq qs) (hx : x ∈ qs) {c : Q4} (e1 : c.a % 256 = x.a % 256) (e2 : c.b % 256 = x.b % 256) (e3 : c.c % 256 = x.c % 256) (e4 : c.d % 256 = 255) (hf : First (qs.map (sdist c)) i) (hy : y = qs.getD i default) :
    y.a % 256 = x.a % 256 ∧ y.b % 256 = x.b % 256 ∧ y.c % 256 = x.c % 256 ∧ y.d % 256 = x.d % 256 ∧ i < qs.length := by
  have hn := near_of_first e4 hO hf
  have hi : i < qs.length := hn.lt (List.length_pos_of_mem hx)
  have h1 := hn.least hx
  rw [← hy] at h1
  have h2 : dist x c = 0 := by unfold dist; rw [e1, e2, e3]; simp
  have h3 := dist_nonneg y c
  obtain ⟨k1, k2, k3⟩ := dist_zero (show dist y c = 0 by omega)
  have hyq : y ∈ qs := by rw [hy]; exact getD_mem qs i hi
  have k4 := hO y hyq
  have k5 := hO x hx
  exact ⟨by omega, by omega, by omega, by omega, hi⟩
theorem first_mem {qs : List Q4} {c x : Q4} {i : Nat} (hf : First (qs.map (sdist c)) i) (h0 : 0 < qs.length) (hx : x = qs.getD i default) : x ∈ qs := by
  have : i < qs.length := by have := hf.lt (by simpa using h0); simpa using this
  rw [hx]; exact getD_mem qs i this
theorem quad4_eq {X : World} {g : Nat} {t : TypeId} {a b c d a' b' c' d' : Int} (h : X.heap[g]? = some (.cells #[.int .i64 a, .int .i64 b, .int .i64 c, .int .i64 d] t (0, 0))) (e1 : a = a') (e2 : b = b') (e3 : c = c') (e4 : d = d') : X.heap[g]? = some (.cells #[.int .i64 a', .int .i64 b', .int .i64 c', .int .i64 d'] t (0, 0)) := by
  subst e1 e2 e3 e4; exact h

end Go.Proofs.Ytbhccckfooobcaa

/-
  Contracts of the rectangles' functions and of the sizes of new images. No condition.
-/
import Derived.Test.YtpllecddmpdaiaaBase
import Derived.Laws.BitsAllLaws
namespace Go.Proofs.Ytpllecddmpdaiaa
open Go.ChangeShapes Go.WideShapes Go.ChangeAt Go.RowKit
set_option linter.unusedVariables false
set_option linter.unusedSimpArgs false

theorem rectangle4 (a b c d : Int) (w : World) :
    Calls Try.prog 12 #[.agg #[.int .i64 a, .int .i64 b, .int .i64 c, .int .i64 d]] w fun e w' => e = .returned (.agg #[.int .i64 a, .int .i64 b, .int .i64 c, .int .i64 d]) ∧ Below w.heap.size w w' := by
  go_enter Try.func12, Try.ntmps12
  go_wp2
  exact bodyPost_ret (v := .agg #[.int .i64 a, .int .i64 b, .int .i64 c, .int .i64 d]) (by simp [results, Try.results12, go_sem]) rfl ⟨rfl, ((Below.refl _ _).alloc (Nat.le_refl _) _).alloc (by simp) _⟩

theorem plain4 (a b c d : Int) (w : World) :
    Calls Try.prog 22 #[.agg #[.int .i64 a, .int .i64 b, .int .i64 c, .int .i64 d]] w fun e w' => e = .returned (.agg #[.int .i64 a, .int .i64 b, .int .i64 c, .int .i64 d]) ∧ Below w.heap.size w w' := by
  go_enter Try.func22, Try.ntmps22
  go_wp2
  exact bodyPost_ret (v := .agg #[.int .i64 a, .int .i64 b, .int .i64 c, .int .i64 d]) (by simp [results, Try.results22, go_sem]) rfl ⟨rfl, ((Below.refl _ _).alloc (Nat.le_refl _) _).alloc (by simp) _⟩

theorem toRect4 (a b c d : Int) (w : World) :
    Calls Try.prog 4 #[.agg #[.int .i64 a, .int .i64 b, .int .i64 c, .int .i64 d]] w fun e w' => e = .returned (.agg #[.int .i64 a, .int .i64 b, .int .i64 c, .int .i64 d]) ∧ Below w.heap.size w w' := by
  go_enter Try.func4, Try.ntmps4
  go_wp2
  exact bodyPost_ret (v := .agg #[.int .i64 a, .int .i64 b, .int .i64 c, .int .i64 d]) (by simp [results, Try.results4, go_sem]) rfl ⟨rfl, ((Below.refl _ _).alloc (Nat.le_refl _) _).alloc (by simp) _⟩

theorem dx_any (a b c d : Int) (h : I64 (c - a)) (w : World) :
    Calls Try.prog 26 #[.agg #[.int .i64 a, .int .i64 b, .int .i64 c, .int .i64 d]] w fun e w' => e = .returned (.int .i64 (c - a)) ∧ Below w.heap.size w w' := by
  obtain ⟨h1, h2⟩ := h
  go_enter Try.func26, Try.ntmps26
  go_wp2
  go_ret
  exact ⟨rfl, (Below.refl _ _).alloc (Nat.le_refl _) _⟩

theorem dy_any (a b c d : Int) (h : I64 (d - b)) (w : World) :
    Calls Try.prog 29 #[.agg #[.int .i64 a, .int .i64 b, .int .i64 c, .int .i64 d]] w fun e w' => e = .returned (.int .i64 (d - b)) ∧ Below w.heap.size w w' := by
  obtain ⟨h1, h2⟩ := h
  go_enter Try.func29, Try.ntmps29
  go_wp2
  go_ret
  exact ⟨rfl, (Below.refl _ _).alloc (Nat.le_refl _) _⟩

theorem empty_yes (a b c d : Int) (h : c ≤ a ∨ d ≤ b) (w : World) :
    Calls Try.prog 20 #[.agg #[.int .i64 a, .int .i64 b, .int .i64 c, .int .i64 d]] w fun e w' => e = .returned (.bool true) ∧ Below w.heap.size w w' := by
  by_cases h1 : c ≤ a
  · have t1 : decide (c ≤ a) = true := by simp [h1]
    go_enter Try.func20, Try.ntmps20
    go_wp2
    go_ret
    exact ⟨rfl, (Below.refl _ _).alloc (Nat.le_refl _) _⟩
  · have h2 : d ≤ b := by omega
    have t1 : decide (c ≤ a) = false := by simpa using h1
    have t2 : decide (d ≤ b) = true := by simp [h2]
    go_enter Try.func20, Try.ntmps20
    go_wp2
    go_ret
    exact ⟨rfl, (Below.refl _ _).alloc (Nat.le_refl _) _⟩

theorem empty_no (a b c d : Int) (h1 : a < c) (h2 : b < d) (w : World) :
    Calls Try.prog 20 #[.agg #[.int .i64 a, .int .i64 b, .int .i64 c, .int .i64 d]] w fun e w' => e = .returned (.bool false) ∧ Below w.heap.size w w' := by
  have t1 : decide (c ≤ a) = false := by simpa using h1
  have t2 : decide (d ≤ b) = false := by simpa using h2
  go_enter Try.func20, Try.ntmps20
  go_wp2
  go_ret
  exact ⟨rfl, (Below.refl _ _).alloc (Nat.le_refl _) _⟩

/-- A point lies in a rectangle. -/
def In (a b c d x y : Int) : Prop := a ≤ x ∧ x < c ∧ b ≤ y ∧ y < d

theorem mask32 (x : Int) (h1 : 0 ≤ x) (h2 : x < 4294967296) : bits .and .u64 x 4294967295 = x := by
  rw [u64_and x 4294967295 h1 (by omega) (by omega) (by omega)]
  have : (4294967295 : Int).toNat = 2 ^ 32 - 1 := by decide
  rw [this, Nat.and_two_pow_sub_one_eq_mod]
  omega

theorem mul64_small (x y : Int) (h1 : 0 ≤ x) (h2 : x ≤ 4000000) (h3 : 0 ≤ y) (h4 : y ≤ 4000000) (h5 : x * y ≤ 4000000) (w : World) :
    Calls Try.prog 30 #[.int .u64 x, .int .u64 y] w fun e w' => e = .returned (.tuple #[.int .u64 0, .int .u64 (x * y)]) ∧ w = w' := by
  have h6 : 0 ≤ x * y := Int.mul_nonneg h1 h3
  have m1 := mask32 x h1 (by omega)
  have m2 := mask32 y h3 (by omega)
  have m3 := mask32 0 (by omega) (by omega)
  have d1 : x / 4294967296 = 0 := by omega
  have d2 : y / 4294967296 = 0 := by omega
  have d3 : x * y / 4294967296 = 0 := by omega
  go_enter Try.func30, Try.ntmps30
  go_wp2
  go_ret2
  exact ⟨rfl, rfl⟩

end Go.Proofs.Ytpllecddmpdaiaa

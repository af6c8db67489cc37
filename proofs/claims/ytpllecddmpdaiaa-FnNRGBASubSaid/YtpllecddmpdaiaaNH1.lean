/-
  Contracts of the laws' own helpers. No condition.
-/
import Derived.Test.YtpllecddmpdaiaaNS1
import Derived.Test.YtpllecddmpdaiaaSame
import Derived.Laws.StructEq
import Derived.Test.YtpllecddmpdaiaaX0
namespace Go.Proofs.Ytpllecddmpdaiaa
open Go.ChangeShapes Go.WideShapes Go.ChangeAt Go.RowKit
set_option linter.unusedVariables false
set_option linter.unusedSimpArgs false

/-- The rectangles of which the laws speak. -/
def Fine (a b c d : Int) : Prop := -4611686018427387904 ≤ a ∧ c ≤ 4611686018427387904 ∧ -4611686018427387904 ≤ b ∧ d ≤ 4611686018427387904 ∧ a ≤ c ∧ b ≤ d ∧ c ≤ a + 1000 ∧ d ≤ b + 1000

theorem fine_yes (a b c d : Int) (h : Fine a b c d) (w : World) :
    Calls Try.prog 6 #[.agg #[.int .i64 a, .int .i64 b, .int .i64 c, .int .i64 d]] w fun e w' => e = .returned (.bool true) ∧ Below w.heap.size w w' := by
  obtain ⟨h1, h2, h3, h4, h5, h6, h7, h8⟩ := h
  go_enter Try.func6, Try.ntmps6
  go_wp2
  go_ret
  exact ⟨rfl, (Below.refl _ _).alloc (Nat.le_refl _) _⟩

theorem fine_no (a b c d : Int) (ha : I64 a) (hb : I64 b) (hc : I64 c) (hd : I64 d) (h : ¬ Fine a b c d) (w : World) :
    Calls Try.prog 6 #[.agg #[.int .i64 a, .int .i64 b, .int .i64 c, .int .i64 d]] w fun e w' => e = .returned (.bool false) ∧ Below w.heap.size w w' := by
  unfold Fine at h
  obtain ⟨a1, a2⟩ := ha
  obtain ⟨b1, b2⟩ := hb
  obtain ⟨c1, c2⟩ := hc
  obtain ⟨d1, d2⟩ := hd
  by_cases g0 : a < -4611686018427387904
  · clear h
    go_enter Try.func6, Try.ntmps6
    go_wp2
    go_ret
    exact ⟨rfl, (Below.refl _ _).alloc (Nat.le_refl _) _⟩
  by_cases g1 : 4611686018427387904 < c
  · clear h
    go_enter Try.func6, Try.ntmps6
    go_wp2
    go_ret
    exact ⟨rfl, (Below.refl _ _).alloc (Nat.le_refl _) _⟩
  by_cases g2 : b < -4611686018427387904
  · clear h
    go_enter Try.func6, Try.ntmps6
    go_wp2
    go_ret
    exact ⟨rfl, (Below.refl _ _).alloc (Nat.le_refl _) _⟩
  by_cases g3 : 4611686018427387904 < d
  · clear h
    go_enter Try.func6, Try.ntmps6
    go_wp2
    go_ret
    exact ⟨rfl, (Below.refl _ _).alloc (Nat.le_refl _) _⟩
  by_cases g4 : c < a
  · clear h
    go_enter Try.func6, Try.ntmps6
    go_wp2
    go_ret
    exact ⟨rfl, (Below.refl _ _).alloc (Nat.le_refl _) _⟩
  by_cases g5 : d < b
  · clear h
    go_enter Try.func6, Try.ntmps6
    go_wp2
    go_ret
    exact ⟨rfl, (Below.refl _ _).alloc (Nat.le_refl _) _⟩
  by_cases g6 : ¬ c ≤ a + 1000
  · clear h
    go_enter Try.func6, Try.ntmps6
    go_wp2
    go_ret
    exact ⟨rfl, (Below.refl _ _).alloc (Nat.le_refl _) _⟩
  have g7 : ¬ d ≤ b + 1000 := by omega
  clear h
  go_enter Try.func6, Try.ntmps6
  go_wp2
  go_ret
  exact ⟨rfl, (Below.refl _ _).alloc (Nat.le_refl _) _⟩

theorem rect_eql (a b c d p q r s : Int) (W : World) : (binOp .eql 25 (.agg #[.int .i64 a, .int .i64 b, .int .i64 c, .int .i64 d]) (.agg #[.int .i64 p, .int .i64 q, .int .i64 r, .int .i64 s])).run Try.prog W = .ok (.bool (a == p && b == q && c == r && d == s)) W := by
  have hst : Try.prog.stoodInHeld 25 = false := by kernel_rfl
  rw [run_eql_struct, run_equalIn_agg _ _ _ _ _ (by simp [Program.fieldsOf, Try.underlying25]) hst]
  simp [Program.fieldsOf, Try.underlying25, Op.eqFields, go_sem]
  by_cases h1 : a = p <;> by_cases h2 : b = q <;> by_cases h3 : c = r <;> by_cases h4 : d = s <;> simp [*]
theorem rect_same (a b c d : Int) (W : World) : (binOp .eql 25 (.agg #[.int .i64 a, .int .i64 b, .int .i64 c, .int .i64 d]) (.agg #[.int .i64 a, .int .i64 b, .int .i64 c, .int .i64 d])).run Try.prog W = .ok (.bool true) W := by
  rw [rect_eql]; simp
theorem rect_diff (a b c d : Int) (W : World) : (binOp .neq 25 (.agg #[.int .i64 a, .int .i64 b, .int .i64 c, .int .i64 d]) (.agg #[.int .i64 a, .int .i64 b, .int .i64 c, .int .i64 d])).run Try.prog W = .ok (.bool false) W := by
  have hst : Try.prog.stoodInHeld 25 = false := by kernel_rfl
  rw [run_neq_struct, run_equalIn_agg _ _ _ _ _ (by simp [Program.fieldsOf, Try.underlying25]) hst]
  simp [Program.fieldsOf, Try.underlying25, Op.eqFields, go_sem]

theorem col_eql (a b c d p q r s : Int) (W : World) : (binOp .eql 36 (.agg #[.int .i64 a, .int .i64 b, .int .i64 c, .int .i64 d]) (.agg #[.int .i64 p, .int .i64 q, .int .i64 r, .int .i64 s])).run Try.prog W = .ok (.bool (a == p && b == q && c == r && d == s)) W := by
  have hst : Try.prog.stoodInHeld 36 = false := by kernel_rfl
  rw [run_eql_struct, run_equalIn_agg _ _ _ _ _ (by simp [Program.fieldsOf, Try.underlying36]) hst]
  simp [Program.fieldsOf, Try.underlying36, Op.eqFields, go_sem]
  by_cases h1 : a = p <;> by_cases h2 : b = q <;> by_cases h3 : c = r <;> by_cases h4 : d = s <;> simp [*]
theorem col_same (a b c d : Int) (W : World) : (binOp .eql 36 (.agg #[.int .i64 a, .int .i64 b, .int .i64 c, .int .i64 d]) (.agg #[.int .i64 a, .int .i64 b, .int .i64 c, .int .i64 d])).run Try.prog W = .ok (.bool true) W := by
  rw [col_eql]; simp

theorem col_diff (a b c d : Int) (W : World) : (binOp .neq 36 (.agg #[.int .i64 a, .int .i64 b, .int .i64 c, .int .i64 d]) (.agg #[.int .i64 a, .int .i64 b, .int .i64 c, .int .i64 d])).run Try.prog W = .ok (.bool false) W := by
  have hst : Try.prog.stoodInHeld 36 = false := by kernel_rfl
  rw [run_neq_struct, run_equalIn_agg _ _ _ _ _ (by simp [Program.fieldsOf, Try.underlying36]) hst]
  simp [Program.fieldsOf, Try.underlying36, Op.eqFields, go_sem]
theorem pfld0 (a b c d st : Int) (v : Value) (W : World) : (Instr.field 31 (.agg #[.int .i64 a, .int .i64 b, .int .i64 c, .int .i64 d, .int .i64 st, v]) 0).run Try.prog W = .ok (.agg #[.int .i64 a, .int .i64 b, .int .i64 c, .int .i64 d]) W := by kernel_rfl
theorem pfld2 (a b c d st : Int) (A : Option Addr) (n cp : Nat) (W : World) : (Instr.field 31 (.agg #[.int .i64 a, .int .i64 b, .int .i64 c, .int .i64 d, .int .i64 st, .slice A n cp]) 2).run Try.prog W = .ok (.slice A n cp) W := by kernel_rfl

theorem byt_nil (N : Nat) : byt N [] = List.replicate N 0 := by
  apply List.ext_getElem
  · simp [byt_length]
  · intro i h1 h2; simp [byt]

theorem fine_area {a b c d : Int} (h : Fine a b c d) : 0 ≤ c - a ∧ c - a ≤ 1000 ∧ 0 ≤ d - b ∧ d - b ≤ 1000 ∧ ∃ N : Nat, (c - a) * (d - b) = N := by
  obtain ⟨h1, h2, h3, h4, h5, h6, h7, h8⟩ := h
  exact ⟨by omega, by omega, by omega, by omega, ((c - a) * (d - b)).toNat, by have := Int.mul_nonneg (show 0 ≤ c - a by omega) (show 0 ≤ d - b by omega); omega⟩


/-- The frame behind two steps. -/
theorem bst {X Y w : World} (bc : Below X.heap.size X Y) (h : Below w.heap.size w X) : Below w.heap.size w Y := Go.Proofs.Ytpllecddmpdaiaa.bs bc h
end Go.Proofs.Ytpllecddmpdaiaa

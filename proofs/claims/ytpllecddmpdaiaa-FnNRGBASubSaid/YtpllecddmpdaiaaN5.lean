/-
  Contracts: offsets, reads and writes of an image. No condition.
-/
import Derived.Test.YtpllecddmpdaiaaN4
import Derived.Test.YtpllecddmpdaiaaX0
namespace Go.Proofs.Ytpllecddmpdaiaa
open Go.ChangeShapes Go.WideShapes Go.ChangeAt Go.RowKit
set_option linter.unusedVariables false
set_option linter.unusedSimpArgs false

/-- The call returns some number of 64 bits and only draws. -/
def SomeInt (w : World) (e : Ending) (w' : World) : Prop := ∃ i : Int, I64 i ∧ e = .returned (.int .i64 i) ∧ ∃ k, w' = w.drewN k

theorem wrap_I64 (i : Int) : I64 (wrap64 i) := by
  unfold I64 wrap64
  omega

theorem pixoff_any (gp : Nat) (x y st a b : Int) (w : World) (r1 : w.cell? ⟨gp, 1, none⟩ = some (.int .i64 st)) (r2 : w.cell? ⟨gp, 2, none⟩ = some (.int .i64 a)) (r3 : w.cell? ⟨gp, 3, none⟩ = some (.int .i64 b)) :
    Calls Try.prog 21 #[.pointer (some ⟨gp, 0, none⟩), .int .i64 x, .int .i64 y] w (SomeInt w) := by
  go_enter Try.func21, Try.ntmps21
  go_wp2
  go_quiet (fail)
  go_wp2
  go_ret
  exact ⟨_, wrap_I64 _, rfl, _, rfl⟩

theorem pixoff_in (gp o : Nat) (x y st a b : Int) (w : World) (r1 : w.cell? ⟨gp, 1, none⟩ = some (.int .i64 st)) (r2 : w.cell? ⟨gp, 2, none⟩ = some (.int .i64 a)) (r3 : w.cell? ⟨gp, 3, none⟩ = some (.int .i64 b))
    (h1 : 0 ≤ y - b) (h2 : y - b ≤ 1000) (h3 : 0 ≤ x - a) (h4 : x - a ≤ 1000) (h5 : 0 ≤ st) (h6 : st ≤ 4000) (ho : (y - b) * st + (x - a) * 4 = o) :
    Calls Try.prog 21 #[.pointer (some ⟨gp, 0, none⟩), .int .i64 x, .int .i64 y] w fun e w' => e = .returned (.int .i64 o) ∧ ∃ k, w' = w.drewN k := by
  have k1 : 0 ≤ (y - b) * st := Int.mul_nonneg h1 h5
  have k2 : (y - b) * st ≤ 1000 * 4000 := Int.mul_le_mul h2 h6 h5 (by decide)
  have e1 : IntKind.i64.wrap (y - b) = y - b := IntWalk.i64_in _ ⟨by omega, by omega⟩
  have e2 : IntKind.i64.wrap ((y - b) * st) = (y - b) * st := IntWalk.i64_in _ ⟨by omega, by omega⟩
  have e3 : IntKind.i64.wrap (x - a) = x - a := IntWalk.i64_in _ ⟨by omega, by omega⟩
  have e4 : IntKind.i64.wrap ((x - a) * 4) = (x - a) * 4 := IntWalk.i64_in _ ⟨by omega, by omega⟩
  have e5 : IntKind.i64.wrap ((y - b) * st + (x - a) * 4) = o := by rw [ho]; exact IntWalk.i64_in _ ⟨by omega, by omega⟩
  clear ho k1 k2 h1 h2 h3 h4 h5 h6
  go_enter Try.func21, Try.ntmps21
  go_wp2
  go_quiet (fail)
  go_wp2
  go_ret
  exact ⟨rfl, _, rfl⟩

theorem results_none {fn : Func} (h : fn.results = #[]) (tmps : Array Value) (P : Program) (w : World) : (results fn tmps).run P w = .ok (.tuple #[]) w := by simp [results, h]
theorem Img.ne {w : World} {gp gb gb' off len : Nat} {st a b c d : Int} {bs : List Int} (hi : Img w gp gb' off len st a b c d) (hp : Pix w gb bs) : gp ≠ gb := by
  rintro rfl
  have e2 := hp.1
  unfold Img at hi
  rw [hi] at e2
  injection e2 with e2
  injection e2 with _ e3 _
  exact absurd e3 (by decide)

theorem grown_set {w w1 : World} {g i : Nat} {u : Value} (bw : Below w.heap.size w w1) : w.grownBy (w1.setCell ⟨g, i, none⟩ u) (some g) :=
  ⟨bw.os, bw.tape, bw.output, by simpa [World.setCell] using bw.size, fun j hj hne => (Below.heap_setCell _ _ _ j (by rintro rfl; exact hne rfl)).trans (bw.block j hj)⟩

end Go.Proofs.Ytpllecddmpdaiaa

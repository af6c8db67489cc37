/-
  Contract: where the bytes of a pixel are, by the fields of a picture. No condition.
-/
import Derived.Test.YtpijljokcoocpaaBase
import Derived.Test.YtpijljokcoocpaaI1
namespace Go.Proofs.Ytpijljokcoocpaa
open Go.ChangeShapes Go.WideShapes Go.ChangeAt Go.RowKit
set_option linter.unusedVariables false
set_option linter.unusedSimpArgs false

theorem at_in (a b c d st m x y : Int) (o N cp mn : Nat) (A : Option Addr) (h1 : 0 ≤ y - b) (h2 : y - b ≤ 1000) (h3 : 0 ≤ x - a) (h4 : x - a ≤ 1000) (h5 : 0 ≤ st) (h6 : st ≤ 4000) (hm : m = (mn : Int)) (hm0 : 0 < mn) (hm4 : mn ≤ 4) (ho : (y - b) * st + (x - a) * m = o) (hoN : o + mn ≤ N) (hN : N ≤ 4000000) (hc : N ≤ cp) (hA : ∃ g off, A = some ⟨g, off, none⟩) (w : World) :
    Calls Try.prog 27 #[.agg #[.int .i64 a, .int .i64 b, .int .i64 c, .int .i64 d, .int .i64 st, .slice A N cp], .int .i64 m, .int .i64 x, .int .i64 y] w fun e w' => ∃ v, e = .returned (.tuple #[v, .bool true]) ∧ Below w.heap.size w w' := by
  obtain ⟨g, off, rfl⟩ := hA
  have k1 : 0 ≤ (y - b) * st := Int.mul_nonneg h1 h5
  have k2 : (y - b) * st ≤ 1000 * 4000 := Int.mul_le_mul h2 h6 h5 (by decide)
  have k3 : 0 ≤ (x - a) * m := Int.mul_nonneg h3 (by omega)
  have k4 : (x - a) * m ≤ 1000 * 4 := Int.mul_le_mul h4 (by omega) (by omega) (by decide)
  have e1 : IntKind.i64.wrap (y - b) = y - b := IntWalk.i64_in _ ⟨by omega, by omega⟩
  have e2 : IntKind.i64.wrap ((y - b) * st) = (y - b) * st := IntWalk.i64_in _ ⟨by omega, by omega⟩
  have e3 : IntKind.i64.wrap (x - a) = x - a := IntWalk.i64_in _ ⟨by omega, by omega⟩
  have e4 : IntKind.i64.wrap ((x - a) * m) = (x - a) * m := IntWalk.i64_in _ ⟨by omega, by omega⟩
  have e5 : IntKind.i64.wrap ((y - b) * st + (x - a) * m) = (o : Int) := by rw [ho]; exact IntWalk.i64_in _ ⟨by omega, by omega⟩
  have e6 : IntKind.i64.wrap ((o : Int) + m) = ((o + mn : Nat) : Int) := by rw [show (o : Int) + m = ((o + mn : Nat) : Int) by omega]; exact IntWalk.i64_in _ ⟨by omega, by omega⟩
  have t1 : ¬ ((o : Int) < 0) := by omega
  have t2 : ¬ (((o + mn : Nat) : Int) > (N : Int)) := by omega
  have t3 : ¬ ((N : Int) < ((o + mn : Nat) : Int)) := by omega
  have s1 : o + mn ≤ cp := by omega
  have s2 : o ≤ o + mn := by omega
  have s3 : (o : Int) ≤ ((o + mn : Nat) : Int) := by omega
  have s4 : ((o + mn : Nat) : Int) ≤ (cp : Int) := by omega
  have s5 : (0 : Int) ≤ ((o + mn : Nat) : Int) := by omega
  have s6 : ¬ cp = o := by omega
  have t4 : ¬ ((N : Int) < (o : Int) + (mn : Int)) := by omega
  clear k1 k2 k3 k4 ho h1 h2 h3 h4 h5 h6 hm hm0 hm4 hoN hN hc
  go_enter Try.func27, Try.ntmps27
  go_wp2
  exact bodyPost_ret (v := .tuple #[.slice (some ⟨g, off + o, none⟩) mn (cp - o), .bool true]) (by simp [results, Try.results27, go_sem]) rfl ⟨⟨_, rfl⟩, (Below.refl _ _).alloc (Nat.le_refl _) _⟩

end Go.Proofs.Ytpijljokcoocpaa

/-
  Contract: two lists of colors that are the same. No condition.
-/
import Derived.Test.YtkhofahobcegiaaNH1
namespace Go.Proofs.Ytkhofahobcegiaa
set_option linter.unusedVariables false
set_option linter.unusedSimpArgs false
open Go.ChangeShapes Go.WideShapes Go.ChangeAt Go.RowKit

set_option maxHeartbeats 1000000 in
theorem sameC_true (A1 A2 : Option Addr) (n c1 c2 B1 B2 : Nat) (qs : List Q4) (w : World) (h1 : RdQuads w B1 A1 n qs) (h2 : RdQuads w B2 A2 n qs) :
    Calls Try.prog 48 #[.slice A1 n c1, .slice A2 n c2] w fun e w' => e = .returned (.bool true) ∧ Below w.heap.size w w' := by
  obtain ⟨_, hn8, _, hc1⟩ := h1
  obtain ⟨_, _, _, hc2⟩ := h2
  have k1 := Lib.hid hc1
  have k2 := Lib.hid hc2
  have hcd := fun a b c d W => col_diff a b c d W
  clear hc1 hc2
  go_enter Try.func48, Try.ntmps48
  go_wp2
  go_loopw [13, 5] (fun i _ wr => ∃ k m : Nat, k ≤ n ∧ i = .int .i64 k ∧ wr = w.drewN m) (fun i _ _ => n - (intOf i).toNat)
  case atStart => exact ⟨0, 0, Nat.zero_le _, rfl, rfl⟩
  case round =>
    obtain ⟨k, m, hk, rfl, rfl⟩ := hrel
    by_cases hlt : k < n
    · obtain ⟨b1, o1, rfl, _, g1⟩ := k1.out (by omega)
      obtain ⟨b2, o2, rfl, _, g2⟩ := k2.out (by omega)
      have x1 := g1 k hlt
      have x2 := g2 k hlt
      generalize qs.getD k default = q at x1 x2
      obtain ⟨q0, q1, q2, q3⟩ := q
      obtain ⟨x10, x11, x12, x13⟩ := x1
      obtain ⟨x20, x21, x22, x23⟩ := x2
      dsimp only at x10 x11 x12 x13 x20 x21 x22 x23
      clear g1 g2 k1 k2
      go_wp2
      go_quiet (fail)
      go_wp2
      go_roundw
      case rel => exact ⟨k + 1, m + nq, by omega, by go_num, rfl⟩
      case measure => simp [intOf]; omega
    · go_wp2
      go_ret
      exact ⟨rfl, below_drewN (Below.refl _ _) m⟩

end Go.Proofs.Ytkhofahobcegiaa

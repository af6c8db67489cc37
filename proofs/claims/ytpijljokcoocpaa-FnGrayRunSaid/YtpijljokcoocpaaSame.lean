/-
  sameInts returns true on two slices that read as one list. No condition.
-/
import Derived.Test.YtpijljokcoocpaaBase
namespace Go.Proofs.Ytpijljokcoocpaa
set_option linter.unusedVariables false
set_option linter.unusedSimpArgs false
open Go.ChangeShapes Go.WideShapes Go.ChangeAt Go.RowKit

theorem same_true (A1 A2 : Option Addr) (n c1 c2 B1 B2 : Nat) (zs : List Int) (w : World) (h1 : Rd w B1 A1 n zs) (h2 : Rd w B2 A2 n zs) :
    Calls Try.prog 46 #[.slice A1 n c1, .slice A2 n c2] w fun e w' => e = .returned (.bool true) ∧ ∃ k, w' = w.drewN k := by
  obtain ⟨_, hn8, _, hc1⟩ := h1
  obtain ⟨_, _, _, hc2⟩ := h2
  have k1 := Lib.hid hc1
  have k2 := Lib.hid hc2
  clear hc1 hc2
  go_enter Try.func46, Try.ntmps46
  go_wp2
  go_loopw [13, 5] (fun i _ wr => ∃ k m : Nat, k ≤ n ∧ i = .int .i64 k ∧ wr = w.drewN m) (fun i _ _ => n - (intOf i).toNat)
  case atStart => exact ⟨0, 0, Nat.zero_le _, rfl, rfl⟩
  case round =>
    obtain ⟨k, m, hk, rfl, rfl⟩ := hrel
    by_cases hlt : k < n
    · obtain ⟨b1, o1, rfl, _, g1⟩ := k1.out (by omega)
      obtain ⟨b2, o2, rfl, _, g2⟩ := k2.out (by omega)
      have x1 := g1 k hlt
      have x2 := g2 k hlt
      clear g1 g2 k1 k2
      go_wp2
      go_quiet (fail)
      go_wp2
      go_roundw
      case rel => exact ⟨k + 1, m + nq, by omega, by go_num, rfl⟩
      case measure => simp [intOf]; omega
    · go_wp2
      go_ret
      exact ⟨rfl, m, rfl⟩

end Go.Proofs.Ytpijljokcoocpaa

/-
  The walks of FnExactGrayWide, FnGrayWideDiffers, FnNRGBAWide and FnGrayWideIsNRGBA. No condition.
-/
import Derived.Test.YtclmeimgjjnllaaW1
import Derived.Test.YtclmeimgjjnllaaSame
namespace Go.Proofs.Ytclmeimgjjnllaa
open Go.ChangeShapes Go.WideShapes Go.ChangeAt Go.RowKit

theorem fnGrayWideDiffers_walk (w : World) (a : Int) (ha : I64 a) (b : Int) (hb : I64 b) :
    Calls Try.prog 4 #[.int .i64 a, .int .i64 b] w fun e w' => e = .returned (.bool true) ∧ Below w.heap.size w w' := by
  go_enter Try.func4, Try.ntmps4
  go_wp2_with fail
  refine (gray_wide a _).mono ?_
  intro e w1 h1
  obtain ⟨g1, rfl, hg1, hl1, _, _, k1, b1⟩ := h1.rd ⟨by omega, by omega⟩ ⟨by omega, by omega⟩ ⟨by omega, by omega⟩ ⟨by omega, by omega⟩
  clear h1
  go_wp2_with fail
  refine (gray_wide b _).mono ?_
  intro e w2 h2
  obtain ⟨g2, rfl, hg2, hl2, _, _, k2, b2⟩ := h2.rd ⟨by omega, by omega⟩ ⟨by omega, by omega⟩ ⟨by omega, by omega⟩ ⟨by omega, by omega⟩
  clear h2
  have k1' : w2.cell? ⟨g1, 0, none⟩ = some (.int .i64 (a % 256 * 257)) := (b2.cell (p := ⟨g1, 0, none⟩) hl1).trans k1
  clear k1
  have fin := Lib.hid (b1.trans (b2.mono b1.size))
  clear b1 b2
  have e1 : decide (a % 256 * 257 < b % 256 * 257) = decide (a % 256 < b % 256) := by simp
  have e2 : (a % 256 * 257 == b % 256 * 257) = (a % 256 == b % 256) := by rw [Bool.eq_iff_iff]; simp; omega
  go_wp2_with fail
  go_quiet ((go_at_call 15; exact Calls.quiet_of_same (low_same _ (by assumption) _)))
  go_wp2
  go_ret
  exact ⟨rfl, below_drewN fin.out _⟩

theorem fnNRGBAWide_walk (w : World) (q : Q4) (hq : q.ok) :
    Calls Try.prog 5 #[q.val] w fun e w' => e = .returned (.bool true) ∧ Below w.heap.size w w' := by
  obtain ⟨a, b, c, d⟩ := q
  show Calls Try.prog 5 #[.agg #[.int .i64 a, .int .i64 b, .int .i64 c, .int .i64 d]] w _
  have ra := comp_range a d
  have rb := comp_range b d
  have rc := comp_range c d
  go_enter Try.func5, Try.ntmps5
  go_wp2_with fail
  refine (toColor4 _ _ _ _ _).mono ?_
  rintro e w1 ⟨rfl, b1⟩
  go_wp2_with fail
  refine (nrgba_wide4 _ _ _ _ _).mono ?_
  intro e w2 h2
  obtain ⟨g, rfl, hg, hl, hr, k3, _, b2⟩ := h2.rd ⟨by omega, by omega⟩ ⟨by omega, by omega⟩ ⟨by omega, by omega⟩ ⟨by omega, by omega⟩
  clear h2
  have fin : Below w.heap.size w w2 := (((Below.refl _ _).alloc (Nat.le_refl _) _).trans (b1.mono (by simp))).trans (b2.mono (by have := b1.size; simp at this; omega))
  have fin := Lib.hid fin
  obtain ⟨_, _, _, hr⟩ := hr
  obtain ⟨_, _, e0, _, hr⟩ := hr (by omega)
  simp only [Option.some.injEq, Addr.mk.injEq, and_true] at e0
  obtain ⟨rfl, rfl⟩ := e0
  have hall : ∀ k, k < 4 → ∃ n : Int, 0 ≤ n ∧ n ≤ d % 256 * 257 ∧ w2.cell? ⟨g, k, none⟩ = some (.int .i64 n) := by
    intro k hk
    have := hr k hk
    rw [Nat.zero_add] at this
    rcases (show k = 0 ∨ k = 1 ∨ k = 2 ∨ k = 3 by omega) with rfl | rfl | rfl | rfl
    · exact ⟨_, ra.1, ra.2.1, this⟩
    · exact ⟨_, rb.1, rb.2.1, this⟩
    · exact ⟨_, rc.1, rc.2.1, this⟩
    · exact ⟨_, by omega, Int.le_refl _, this⟩
  have hall := Lib.hid hall
  have r3 := ra.2.2
  have r4 : 0 ≤ d % 256 * 257 := by omega
  clear hr ra rb rc b1 b2
  go_wp2
  go_loop [20, 5] (fun i _ => ∃ k : Nat, k ≤ 4 ∧ i = .int .i64 k) (fun i _ => 4 - (intOf i).toNat)
  case atStart => exact ⟨0, by omega, rfl⟩
  case round =>
    obtain ⟨k, hk, rfl⟩ := hrel
    by_cases hlt : k < 4
    · obtain ⟨n, n1, n2, hc⟩ := hall.out k hlt
      go_wp2
      go_round
      case rel => exact ⟨k + 1, by omega, by go_num⟩
      case measure => simp [intOf]; omega
    · go_wp2
      go_ret
      exact ⟨rfl, fin.out⟩

theorem fnGrayWideIsNRGBA_walk (w : World) (c : Int) (hc : I64 c) :
    Calls Try.prog 9 #[.int .i64 c] w fun e w' => e = .returned (.bool true) ∧ Below w.heap.size w w' := by
  have ec : comp c 255 = c % 256 * 257 := by unfold comp; omega
  go_enter Try.func9, Try.ntmps9
  go_wp2_with fail
  refine (gray_wide c _).mono ?_
  intro e w1 h1
  obtain ⟨g1, rfl, hg1, hl1, r1, k3, k1, b1⟩ := h1.rd ⟨by omega, by omega⟩ ⟨by omega, by omega⟩ ⟨by omega, by omega⟩ ⟨by omega, by omega⟩
  clear h1
  have ec := Lib.hid ec
  go_wp2_with fail
  refine (nrgba_wide4 _ _ _ _ _).mono ?_
  intro e w2 h2
  rw [ec.out, show (255 : Int) % 256 * 257 = 65535 from rfl] at h2
  obtain ⟨g2, rfl, hg2, hl2, r2, _, _, b2⟩ := h2.rd ⟨by omega, by omega⟩ ⟨by omega, by omega⟩ ⟨by omega, by omega⟩ ⟨by omega, by omega⟩
  clear h2
  go_wp2_with fail
  refine (same_true _ _ _ _ _ _ _ _ _ (r1.below b2) r2).mono ?_
  rintro e w3 ⟨rfl, k, rfl⟩
  go_wp2
  go_ret
  exact ⟨rfl, below_drewN (b1.trans (b2.mono b1.size)) _⟩

end Go.Proofs.Ytclmeimgjjnllaa

/-
  The walks of FnNRGBAWideMonotone and FnNRGBAWideScaled. No condition.
-/
import Derived.Test.YtclmeimgjjnllaaW1
namespace Go.Proofs.Ytclmeimgjjnllaa
open Go.ChangeShapes Go.WideShapes Go.ChangeAt Go.RowKit

theorem comp_mono (r a s b : Int) (h1 : r % 256 ≤ s % 256) (h2 : a % 256 ≤ b % 256) : comp r a ≤ comp s b := by
  unfold comp
  have := Int.mul_le_mul (show r % 256 * 257 ≤ s % 256 * 257 by omega) h2 (by omega) (by omega)
  exact Int.ediv_le_ediv (by decide) this
theorem comp_scaled (r a : Int) : comp r a = r % 256 * 257 * (a % 256 * 257) / 65535 := by
  unfold comp
  have e : r % 256 * 257 * (a % 256 * 257) = r % 256 * 257 * (a % 256) * 257 := by rw [Int.mul_assoc, Int.mul_assoc, Int.mul_assoc]
  rw [e]
  generalize r % 256 * 257 * (a % 256) = z
  omega

theorem fnNRGBAWideMonotone_walk (w : World) (x : Q4) (hx : x.ok) (y : Q4) (hy : y.ok) :
    Calls Try.prog 6 #[x.val, y.val] w fun e w' => e = .returned (.bool true) ∧ Below w.heap.size w w' := by
  obtain ⟨a, b, c, d⟩ := x
  obtain ⟨p, q, r, s⟩ := y
  obtain ⟨ha, hb, hc, hd⟩ := hx
  obtain ⟨hp, hq, hr, hs⟩ := hy
  show Calls Try.prog 6 #[.agg #[.int .i64 a, .int .i64 b, .int .i64 c, .int .i64 d], .agg #[.int .i64 p, .int .i64 q, .int .i64 r, .int .i64 s]] w _
  by_cases h0 : p % 256 < a % 256
  · have t0 : decide (p % 256 < a % 256) = true := by simp [h0]
    clear h0
    go_enter Try.func6, Try.ntmps6
    go_wp2
    go_quiet ((go_at_call 15; exact Calls.quiet_of_same (low_same _ (by assumption) _)))
    go_wp2
    go_ret
    exact ⟨rfl, below_drewN (((Below.refl _ _).alloc (Nat.le_refl _) _).alloc (by simp) _) _⟩
  have t0 : decide (p % 256 < a % 256) = false := by simpa using h0
  by_cases h1 : q % 256 < b % 256
  · have t1 : decide (q % 256 < b % 256) = true := by simp [h1]
    clear h1
    go_enter Try.func6, Try.ntmps6
    go_wp2
    go_quiet ((go_at_call 15; exact Calls.quiet_of_same (low_same _ (by assumption) _)))
    go_wp2
    go_ret
    exact ⟨rfl, below_drewN (((Below.refl _ _).alloc (Nat.le_refl _) _).alloc (by simp) _) _⟩
  have t1 : decide (q % 256 < b % 256) = false := by simpa using h1
  by_cases h2 : r % 256 < c % 256
  · have t2 : decide (r % 256 < c % 256) = true := by simp [h2]
    clear h2
    go_enter Try.func6, Try.ntmps6
    go_wp2
    go_quiet ((go_at_call 15; exact Calls.quiet_of_same (low_same _ (by assumption) _)))
    go_wp2
    go_ret
    exact ⟨rfl, below_drewN (((Below.refl _ _).alloc (Nat.le_refl _) _).alloc (by simp) _) _⟩
  have t2 : decide (r % 256 < c % 256) = false := by simpa using h2
  by_cases h3 : s % 256 < d % 256
  · have t3 : decide (s % 256 < d % 256) = true := by simp [h3]
    clear h3
    go_enter Try.func6, Try.ntmps6
    go_wp2
    go_quiet ((go_at_call 15; exact Calls.quiet_of_same (low_same _ (by assumption) _)))
    go_wp2
    go_ret
    exact ⟨rfl, below_drewN (((Below.refl _ _).alloc (Nat.le_refl _) _).alloc (by simp) _) _⟩
  have t3 : decide (s % 256 < d % 256) = false := by simpa using h3
  have ma := comp_mono a d p s (by omega) (by omega)
  have mb := comp_mono b d q s (by omega) (by omega)
  have mc := comp_mono c d r s (by omega) (by omega)
  have ra := comp_range a d
  have rb := comp_range b d
  have rc := comp_range c d
  have rp := comp_range p s
  have rq := comp_range q s
  have rr := comp_range r s
  have hds : d % 256 * 257 ≤ s % 256 * 257 := by omega
  have X := Lib.hid (And.intro (And.intro ra (And.intro rb rc)) (And.intro (And.intro rp (And.intro rq rr)) (And.intro (And.intro ma mb) (And.intro mc hds))))
  clear ma mb mc ra rb rc rp rq rr hds h0 h1 h2 h3
  go_enter Try.func6, Try.ntmps6
  go_wp2
  go_quiet ((go_at_call 15; exact Calls.quiet_of_same (low_same _ (by assumption) _)))
  clear t0 t1 t2 t3
  go_wp2
  have bw : Below w.heap.size w (((w.alloc (.cells #[.int .i64 a, .int .i64 b, .int .i64 c, .int .i64 d] 30)).alloc (.cells #[.int .i64 p, .int .i64 q, .int .i64 r, .int .i64 s] 30)).drewN nq) := below_drewN (((Below.refl _ _).alloc (Nat.le_refl _) _).alloc (by simp) _) _
  have tok1 : True := trivial
  have z1 : w.heap.size < w.heap.size + 1 + 1 := by omega
  have z2 : w.heap.size < w.heap.size + 2 := by omega
  go_region_held3 (fun w' => w'.cell? ⟨w.heap.size, 0, none⟩ = some (.int .i64 a) ∧ w'.cell? ⟨w.heap.size, 1, none⟩ = some (.int .i64 b) ∧ w'.cell? ⟨w.heap.size, 2, none⟩ = some (.int .i64 c) ∧ w'.cell? ⟨w.heap.size, 3, none⟩ = some (.int .i64 d) ∧ w'.cell? ⟨w.heap.size + 1, 0, none⟩ = some (.int .i64 p) ∧ w'.cell? ⟨w.heap.size + 1, 1, none⟩ = some (.int .i64 q) ∧ w'.cell? ⟨w.heap.size + 1, 2, none⟩ = some (.int .i64 r) ∧ w'.cell? ⟨w.heap.size + 1, 3, none⟩ = some (.int .i64 s)) (go_keep)
      (first
        | (go_at_call 17; refine (toColor4 _ _ _ _ _).mono ?_; rintro e wt ⟨rfl, bt⟩; obtain ⟨hct, _⟩ := bcell bt; have zt : w.heap.size + 1 < wt.heap.size := Nat.lt_of_lt_of_le (by first | assumption | simp) bt.size; have zu : w.heap.size < wt.heap.size := Nat.lt_of_succ_lt zt; have bw : Below w.heap.size w wt := (by first | exact bw.trans (bt.mono bw.size) | exact bw.drew.trans (bt.mono bw.size)))
        | (go_at_call 16; have _t := tok1; clear _t tok1; refine (nrgba_wide4 _ _ _ _ _).mono ?_; intro e wF h2; obtain ⟨gF, rfl, _, lF, rF, _, _, bF⟩ := h2.rd (by have := X.out; unfold I64; omega) (by have := X.out; unfold I64; omega) (by have := X.out; unfold I64; omega) (by have := X.out; unfold I64; omega); obtain ⟨hcF, _⟩ := bcell bF; have zF : w.heap.size + 1 < wF.heap.size := Nat.lt_of_lt_of_le (by first | assumption | simp) bF.size; have zB : w.heap.size < wF.heap.size := Nat.lt_of_succ_lt zF; have bw : Below w.heap.size w wF := bw.trans (bF.mono bw.size); clear h2)
        | (go_at_call 16; refine (nrgba_wide4 _ _ _ _ _).mono ?_; intro e wA h2; obtain ⟨gA, rfl, _, lA, rA, _, _, bA⟩ := h2.rd (by have := X.out; unfold I64; omega) (by have := X.out; unfold I64; omega) (by have := X.out; unfold I64; omega) (by have := X.out; unfold I64; omega); obtain ⟨hcA, _⟩ := bcell bA; have zA : w.heap.size + 1 < wA.heap.size := Nat.lt_of_lt_of_le (by first | assumption | simp) bA.size; have zB : w.heap.size < wA.heap.size := Nat.lt_of_succ_lt zA; have bw : Below w.heap.size w wA := bw.trans (bA.mono bw.size); clear h2))
  have r1 := (rF.below bt).below (bA.mono bt.size)
  obtain ⟨_, _, _, r1⟩ := r1
  obtain ⟨_, _, _, r2⟩ := rA
  obtain ⟨_, _, e1, _, r1⟩ := r1 (by omega)
  obtain ⟨_, _, e2, _, r2⟩ := r2 (by omega)
  simp only [Option.some.injEq, Addr.mk.injEq, and_true] at e1 e2
  obtain ⟨rfl, rfl⟩ := e1
  obtain ⟨rfl, rfl⟩ := e2
  have hall : ∀ k, k < 4 → ∃ m n : Int, m ≤ n ∧ wA.cell? ⟨gF, k, none⟩ = some (.int .i64 m) ∧ wA.cell? ⟨gA, k, none⟩ = some (.int .i64 n) := by
    intro k hk
    have x1 := r1 k hk
    have x2 := r2 k hk
    rw [Nat.zero_add] at x1 x2
    obtain ⟨_, _, ⟨ma, mb⟩, mc, md⟩ := X.out
    rcases (show k = 0 ∨ k = 1 ∨ k = 2 ∨ k = 3 by omega) with rfl | rfl | rfl | rfl
    · exact ⟨_, _, ma, x1, x2⟩
    · exact ⟨_, _, mb, x1, x2⟩
    · exact ⟨_, _, mc, x1, x2⟩
    · exact ⟨_, _, md, x1, x2⟩
  have hall := Lib.hid hall
  have fin := Lib.hid bw
  clear r1 r2 X bw bA bF bt hcF hcA hct
  go_wp2
  go_loopw [58, 7] (fun i _ wr => ∃ k m : Nat, k ≤ 4 ∧ i = .int .i64 k ∧ wr = wA.drewN m) (fun i _ _ => 4 - (intOf i).toNat)
  case atStart => exact ⟨0, 0, by omega, rfl, rfl⟩
  case round =>
    obtain ⟨k, m, hk, rfl, rfl⟩ := hrel
    by_cases hlt : k < 4
    · obtain ⟨u, v, huv, c1, c2⟩ := hall.out k hlt
      have hd : decide (v < u) = false := by simpa using huv
      go_wp2
      go_quiet (fail)
      go_wp2
      go_roundw
      case rel => exact ⟨k + 1, m + nq, by omega, by go_num, rfl⟩
      case measure => simp [intOf]; omega
    · go_wp2
      go_ret
      exact ⟨rfl, below_drewN fin.out _⟩

end Go.Proofs.Ytclmeimgjjnllaa

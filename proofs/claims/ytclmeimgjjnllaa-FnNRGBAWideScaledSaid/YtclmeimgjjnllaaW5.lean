/-
  The walk of FnNRGBAWideScaled. No condition.
-/
import Derived.Test.YtclmeimgjjnllaaW4
namespace Go.Proofs.Ytclmeimgjjnllaa
open Go.ChangeShapes Go.WideShapes Go.ChangeAt Go.RowKit

theorem scaled_nums (n D V : Int) (h1 : 0 ≤ n) (h2 : n ≤ 255) (h3 : 0 ≤ D) (h4 : D ≤ 65535) (hV : V = n * 257 * D / 65535) :
    IntKind.i64.wrap (n * 257) = n * 257 ∧ IntKind.i64.wrap (n * 257 * D) = n * 257 * D ∧ (n * 257 * D).tdiv 65535 = V ∧ IntKind.i64.wrap V = V := by
  have h5 : 0 ≤ n * 257 * D := Int.mul_nonneg (by omega) h3
  have h6 : n * 257 * D ≤ 255 * 257 * 65535 := Int.mul_le_mul (by omega) h4 h3 (by decide)
  generalize n * 257 * D = z at *
  refine ⟨IntWalk.i64_in _ ⟨by omega, by omega⟩, IntWalk.i64_in _ ⟨by omega, by omega⟩, ?_, ?_⟩
  · rw [hV, Int.tdiv_eq_ediv_of_nonneg h5]
  · exact IntWalk.i64_in _ ⟨by omega, by omega⟩

theorem fnNRGBAWideScaled_walk (w : World) (q : Q4) (hq : q.ok) :
    Calls Try.prog 8 #[q.val] w fun e w' => e = .returned (.bool true) ∧ Below w.heap.size w w' := by
  obtain ⟨a, b, c, d⟩ := q
  obtain ⟨ha, hb, hc, hd⟩ := hq
  show Calls Try.prog 8 #[.agg #[.int .i64 a, .int .i64 b, .int .i64 c, .int .i64 d]] w _
  have ra := comp_range a d
  have rb := comp_range b d
  have rc := comp_range c d
  go_enter Try.func8, Try.ntmps8
  go_wp2_with fail
  refine (toColor4 _ _ _ _ _).mono ?_
  rintro e w1 ⟨rfl, b1⟩
  go_wp2_with fail
  refine (nrgba_wide4 _ _ _ _ _).mono ?_
  intro e w2 h2
  obtain ⟨g, rfl, hg, hl, hr, k3, _, b2⟩ := h2.rd ⟨by omega, by omega⟩ ⟨by omega, by omega⟩ ⟨by omega, by omega⟩ ⟨by omega, by omega⟩
  clear h2
  have b0 : Below (w.heap.size + 1) (w.alloc (.cells #[.int .i64 a, .int .i64 b, .int .i64 c, .int .i64 d] 30)) w2 := (b1.mono (by simp)).trans (b2.mono (by have := b1.size; simp at this; omega))
  have fin : Below w.heap.size w w2 := ((Below.refl _ _).alloc (Nat.le_refl _) _).trans (b0.mono (by omega))
  have hz2 : w.heap.size < w2.heap.size := Nat.lt_of_lt_of_le (by simp) b0.size
  have fin := Lib.hid fin
  have y0 : w2.cell? ⟨w.heap.size, 0, none⟩ = some (.int .i64 a) := (b0.cell (p := ⟨w.heap.size, 0, none⟩) (by simp)).trans (by simp)
  have y1 : w2.cell? ⟨w.heap.size, 1, none⟩ = some (.int .i64 b) := (b0.cell (p := ⟨w.heap.size, 1, none⟩) (by simp)).trans (by simp)
  have y2 : w2.cell? ⟨w.heap.size, 2, none⟩ = some (.int .i64 c) := (b0.cell (p := ⟨w.heap.size, 2, none⟩) (by simp)).trans (by simp)
  have y3 : w2.cell? ⟨w.heap.size, 3, none⟩ = some (.int .i64 d) := (b0.cell (p := ⟨w.heap.size, 3, none⟩) (by simp)).trans (by simp)
  obtain ⟨_, _, _, hr⟩ := hr
  obtain ⟨_, _, e0, _, hr⟩ := hr (by omega)
  simp only [Option.some.injEq, Addr.mk.injEq, and_true] at e0
  obtain ⟨rfl, rfl⟩ := e0
  have q0 := hr 0 (by omega)
  have q1 := hr 1 (by omega)
  have q2 := hr 2 (by omega)
  have Q := Lib.hid (And.intro q0 (And.intro q1 q2))
  clear hr q0 q1 q2 ra rb rc b1 b2 b0
  have eD : IntKind.i64.wrap (d % 256 * 257) = d % 256 * 257 := IntWalk.i64_in _ ⟨by omega, by omega⟩
  go_wp2_with fail
  go_quiet ((go_at_call 15; exact Calls.quiet_of_same (low_same _ (by assumption) _)))
  go_wp2_with fail
  go_region_held3 (fun w' => w'.cell? ⟨w.heap.size, 0, none⟩ = some (.int .i64 a) ∧ w'.cell? ⟨w.heap.size, 1, none⟩ = some (.int .i64 b) ∧ w'.cell? ⟨w.heap.size, 2, none⟩ = some (.int .i64 c)) (go_keep)
    (first | (go_at_call 15; refine (low_any _ (by assumption) _).mono ?_; rintro e wt ⟨rfl, rfl⟩))
  clear y0 y1 y2 y3 eD
  go_wp2
  have fin2 : Below w.heap.size w ((w2.drewN (nq + 1)).alloc (Obj.cells #[Value.int IntKind.i64 (a % 256), Value.int IntKind.i64 (b % 256), Value.int IntKind.i64 (c % 256)] 3)) := (below_drewN fin.out _).alloc fin.out.size _
  have hne : ∀ j, ((w2.drewN (nq + 1)).alloc (Obj.cells #[Value.int IntKind.i64 (a % 256), Value.int IntKind.i64 (b % 256), Value.int IntKind.i64 (c % 256)] 3)).cell? ⟨g, j, none⟩ = w2.cell? ⟨g, j, none⟩ := fun j => World.cell?_alloc_lt (w2.drewN (nq + 1)) _ ⟨g, j, none⟩ hl
  have k4 : ((w2.drewN (nq + 1)).alloc (Obj.cells #[Value.int IntKind.i64 (a % 256), Value.int IntKind.i64 (b % 256), Value.int IntKind.i64 (c % 256)] 3)).cell? ⟨g, 3, none⟩ = some (.int .i64 (d % 256 * 257)) := (hne 3).trans k3
  have hall : ∀ k, k < 3 → ∃ n V : Int, 0 ≤ n ∧ n ≤ 255 ∧ V = n * 257 * (d % 256 * 257) / 65535 ∧ ((w2.drewN (nq + 1)).alloc (Obj.cells #[Value.int IntKind.i64 (a % 256), Value.int IntKind.i64 (b % 256), Value.int IntKind.i64 (c % 256)] 3)).cell? ⟨w2.heap.size, k, none⟩ = some (.int .i64 n) ∧ ((w2.drewN (nq + 1)).alloc (Obj.cells #[Value.int IntKind.i64 (a % 256), Value.int IntKind.i64 (b % 256), Value.int IntKind.i64 (c % 256)] 3)).cell? ⟨g, k, none⟩ = some (.int .i64 V) := by
    intro k hk
    obtain ⟨q0, q1, q2⟩ := Q.out
    have hb0 : ((w2.drewN (nq + 1)).alloc (Obj.cells #[Value.int IntKind.i64 (a % 256), Value.int IntKind.i64 (b % 256), Value.int IntKind.i64 (c % 256)] 3)).heap[w2.heap.size]? = some (Obj.cells #[Value.int IntKind.i64 (a % 256), Value.int IntKind.i64 (b % 256), Value.int IntKind.i64 (c % 256)] 3) := heap_alloc_new (w2.drewN (nq + 1)) _
    have hc0 := fun i => cell_of_row ((w2.drewN (nq + 1)).alloc (Obj.cells #[Value.int IntKind.i64 (a % 256), Value.int IntKind.i64 (b % 256), Value.int IntKind.i64 (c % 256)] 3)) w2.heap.size i _ _ (0, 0) hb0
    rcases (show k = 0 ∨ k = 1 ∨ k = 2 by omega) with rfl | rfl | rfl
    · exact ⟨a % 256, comp a d, by omega, by omega, comp_scaled _ _, hc0 0, (hne 0).trans q0⟩
    · exact ⟨b % 256, comp b d, by omega, by omega, comp_scaled _ _, hc0 1, (hne 1).trans q1⟩
    · exact ⟨c % 256, comp c d, by omega, by omega, comp_scaled _ _, hc0 2, (hne 2).trans q2⟩
  have hall := Lib.hid hall
  have fin2 := Lib.hid fin2
  have D0 : 0 ≤ d % 256 * 257 := by omega
  have D1 : d % 256 * 257 ≤ 65535 := by omega
  clear hne Q fin k3
  generalize ((w2.drewN (nq + 1)).alloc (Obj.cells #[Value.int IntKind.i64 (a % 256), Value.int IntKind.i64 (b % 256), Value.int IntKind.i64 (c % 256)] 3)) = W at *
  generalize d % 256 * 257 = D at *
  go_loopw [33, 4, 5] (fun i _ _ wr => ∃ k m : Nat, k ≤ 3 ∧ i = .int .i64 k ∧ wr = W.drewN m) (fun i _ _ _ => 3 - (intOf i).toNat)
  case atStart => exact ⟨0, 0, by omega, rfl, rfl⟩
  case round =>
    obtain ⟨k, m, hk, rfl, rfl⟩ := hrel
    by_cases hlt : k < 3
    · obtain ⟨n, V, n1, n2, hV, c1, c2⟩ := hall.out k hlt
      obtain ⟨t1, t2, t3, t4⟩ := scaled_nums n D V n1 n2 D0 D1 hV
      clear hV
      go_wp2
      go_quiet (fail)
      go_wp2
      go_roundw
      case rel => exact ⟨k + 1, m + nq, by omega, by go_num, rfl⟩
      case measure => simp [intOf]; omega
    · go_wp2
      go_ret
      exact ⟨rfl, below_drewN fin2.out _⟩

end Go.Proofs.Ytclmeimgjjnllaa

/-
  The walks of FnExactGrayWide and FnNRGBAWideOpaque, and the contracts of the three loops of the exact law. No condition.
-/
import Derived.Test.YtclmeimgjjnllaaW1
import Derived.Test.YtclmeimgjjnllaaSame
namespace Go.Proofs.Ytclmeimgjjnllaa
open Go.ChangeShapes Go.WideShapes Go.ChangeAt Go.RowKit

theorem eq_true (A1 A2 : Option Addr) (n c1 c2 B1 B2 : Nat) (zs : List Int) (w : World) (h1 : Rd w B1 A1 n zs) (h2 : Rd w B2 A2 n zs) :
    Calls Try.prog 12 #[.slice A1 n c1, .slice A2 n c2] w fun e w' => e = .returned (.bool true) ∧ ∃ k, w' = w.drewN k := by
  obtain ⟨_, hn8, _, hc1⟩ := h1
  obtain ⟨_, _, _, hc2⟩ := h2
  have k1 := Lib.hid hc1
  have k2 := Lib.hid hc2
  clear hc1 hc2
  go_enter Try.func12, Try.ntmps12
  go_wp2
  go_loopw [5] (fun i wr => ∃ k m : Nat, k ≤ n ∧ i = .int .i64 k ∧ wr = w.drewN m) (fun i _ => n - (intOf i).toNat)
  case atStart => exact ⟨0, 0, Nat.zero_le _, rfl, rfl⟩
  case round =>
    obtain ⟨k, m, hk, rfl, rfl⟩ := hrel
    by_cases hlt : k < n
    · obtain ⟨b1, o1, rfl, _, g1⟩ := k1.out (by omega)
      obtain ⟨b2, o2, rfl, _, g2⟩ := k2.out (by omega)
      have x1 := g1 k hlt
      have x2 := g2 k hlt
      clear g1 g2 k1 k2
      go_wp2
      go_quiet (fail)
      go_wp2
      go_roundw
      case rel => exact ⟨k + 1, m + nq, by omega, by go_num, rfl⟩
      case measure => simp [intOf]; omega
    · go_wp2
      go_ret
      exact ⟨rfl, m, rfl⟩

/-- Block g holds the numbers 1, 2, 3, 4. -/
def Marked (w : World) (g : Nat) : Prop := ∀ j : Nat, j < 4 → w.cell? ⟨g, j, none⟩ = some (.int .i64 (1 + j))

theorem mark_any (g : Nat) (w : World) (cs : Array Value) (hs : cs.size = 4) (hg : w.heap[g]? = some (.cells cs 3 (0, 0))) :
    Calls Try.prog 13 #[.slice (some ⟨g, 0, none⟩) 4 4, .int .i64 1] w fun e w' => e = .returned (.int .i64 5) ∧ Marked w' g ∧ w.grownBy w' (some g) := by
  have hg := Lib.hid hg
  go_enter Try.func13, Try.ntmps13
  go_wp2
  go_loopw [1, 5] (fun m i wr => ∃ (k : Nat) (cs : Array Value), k ≤ 4 ∧ i = .int .i64 k ∧ m = .int .i64 (1 + k) ∧ cs.size = 4 ∧ Hid (wr.heap[g]? = some (.cells cs 3 (0, 0))) ∧ Hid (∀ j : Nat, j < k → cs[j]? = some (.int .i64 (1 + j))) ∧ w.grownBy wr (some g)) (fun _ i _ => 4 - (intOf i).toNat)
  case atStart => exact ⟨0, cs, by omega, rfl, rfl, hs, hg, fun j hj => absurd hj (by omega), ⟨rfl, rfl, rfl, Nat.le_refl _, fun _ _ _ => rfl⟩⟩
  case round =>
    obtain ⟨k, cs, hk, rfl, rfl, hs, hh, hm, hgr⟩ := hrel
    by_cases hlt : k < 4
    · have hx : wr.cell? ⟨g, k, none⟩ = some (cs[k]'(by omega)) := by rw [cell_of_row wr g k cs _ (0, 0) hh.out]; simp
      have hf : wr.frozen? ⟨g, k, none⟩ = false := by simp [World.frozen?, hh.out]
      go_wp2
      go_roundw
      case rel =>
        refine ⟨k + 1, cs.setIfInBounds k (.int .i64 (1 + k)), by omega, by go_num, by go_num, by simpa using hs, ?_, ?_, ⟨hgr.os, hgr.tape, hgr.output, by simpa [World.setCell] using hgr.size, fun i hi hne => (Below.heap_setCell _ _ _ i (by rintro rfl; exact hne rfl)).trans (hgr.block i hi hne)⟩⟩
        · have := hh.out
          simp [Hid, World.setCell, Array.getElem?_modify, this]
        · intro j hj
          by_cases e : j = k
          · subst e; simp [hs, hlt]
          · rw [Array.getElem?_setIfInBounds_ne (by omega)]; exact hm.out j (by omega)
      case measure => simp [intOf]; omega
    · obtain rfl : k = 4 := by omega
      go_wp2
      go_ret
      refine ⟨rfl, fun j hj => ?_, hgr⟩
      rw [cell_of_row wr g j cs _ (0, 0) hh.out]
      exact hm.out j hj

theorem held_any (g : Nat) (w : World) (hm : Marked w g) :
    Calls Try.prog 14 #[.slice (some ⟨g, 0, none⟩) 4 4, .int .i64 1] w fun e w' => e = .returned (.int .i64 5) ∧ w = w' := by
  go_enter Try.func14, Try.ntmps14
  go_wp2
  go_loop [1, 5] (fun m i => ∃ (k : Nat), k ≤ 4 ∧ i = .int .i64 k ∧ m = .int .i64 (1 + k)) (fun _ i => 4 - (intOf i).toNat)
  case atStart => exact ⟨0, by omega, rfl, rfl⟩
  case round =>
    obtain ⟨k, hk, rfl, rfl⟩ := hrel
    by_cases hlt : k < 4
    · have hx := hm k hlt
      go_wp2
      go_round
      case rel => exact ⟨k + 1, by omega, by go_num, by go_num⟩
      case measure => simp [intOf]; omega
    · obtain rfl : k = 4 := by omega
      go_wp2
      go_ret
      exact ⟨rfl, rfl⟩

theorem fnExactGrayWide_walk (w : World) (c : Int) (hc : I64 c) :
    Calls Try.prog 3 #[.int .i64 c] w fun e w' => e = .returned (.bool true) ∧ Below w.heap.size w w' := by
  go_enter Try.func3, Try.ntmps3
  go_wp2_with fail
  refine (sgray_wide c hc _).mono ?_
  intro e w1 h1
  obtain ⟨g1, rfl, hg1, hl1, r1, _, _, b1⟩ := h1.rd ⟨by omega, by omega⟩ ⟨by omega, by omega⟩ ⟨by omega, by omega⟩ ⟨by omega, by omega⟩
  clear h1
  go_wp2_with fail
  refine (gray_wide c _).mono ?_
  intro e w2 h2
  obtain ⟨g2, rfl, hg2, hl2, r2, _, _, b2⟩ := h2.rd ⟨by omega, by omega⟩ ⟨by omega, by omega⟩ ⟨by omega, by omega⟩ ⟨by omega, by omega⟩
  obtain ⟨g', eg, _, hblk, _⟩ := h2
  simp only [Ending.returned.injEq, Value.slice.injEq, Option.some.injEq, Addr.mk.injEq, and_true] at eg
  subst eg
  have HB := Lib.hid hblk
  clear hblk
  go_wp2_with fail
  refine (eq_true _ _ _ _ _ _ _ _ _ r2 (r1.below b2)).mono ?_
  rintro e w3 ⟨rfl, k, rfl⟩
  go_wp2_with fail
  refine (mark_any g2 (w2.drewN k) _ rfl HB.out).mono ?_
  rintro e w4 ⟨rfl, hmk, hgr⟩
  have b4 : Below w1.heap.size w1 w4 := by
    refine ⟨hgr.os.trans b2.os, hgr.tape.trans b2.tape, hgr.output.trans b2.output, Nat.le_trans b2.size hgr.size, fun i hi => ?_⟩
    exact (hgr.block i (Nat.lt_of_lt_of_le hi b2.size) (by intro e; injection e with e; omega)).trans (b2.block i hi)
  have l4 : g2 < w4.heap.size := Nat.lt_of_lt_of_le hl2 hgr.size
  clear hgr HB r2
  go_wp2_with fail
  refine (held_any g2 _ hmk).mono ?_
  rintro e w5 ⟨rfl, rfl⟩
  go_wp2_with fail
  refine (gray_wide c _).mono ?_
  intro e w6 h6
  obtain ⟨g6, rfl, hg6, hl6, r6, _, _, b6⟩ := h6.rd ⟨by omega, by omega⟩ ⟨by omega, by omega⟩ ⟨by omega, by omega⟩ ⟨by omega, by omega⟩
  clear h6
  have b46 : Below w1.heap.size w1 w6 := b4.trans (b6.mono b4.size)
  have hmk6 : Marked w6 g2 := fun j hj => (b6.cell (p := ⟨g2, j, none⟩) l4).trans (hmk j hj)
  clear hmk
  go_wp2_with fail
  refine (eq_true _ _ _ _ _ _ _ _ _ r6 (r1.below b46)).mono ?_
  rintro e w7 ⟨rfl, k7, rfl⟩
  go_wp2_with fail
  refine (held_any g2 (w6.drewN k7) hmk6).mono ?_
  rintro e w8 ⟨rfl, rfl⟩
  go_wp2_with fail
  go_ret
  exact ⟨rfl, below_drewN (b1.trans (b46.mono b1.size)) _⟩

theorem fnNRGBAWideOpaque_walk (w : World) (q : Q4) (hq : q.ok) :
    Calls Try.prog 7 #[q.val] w fun e w' => e = .returned (.bool true) ∧ Below w.heap.size w w' := by
  obtain ⟨a, b, c, d⟩ := q
  obtain ⟨ha, hb, hc, hd⟩ := hq
  show Calls Try.prog 7 #[.agg #[.int .i64 a, .int .i64 b, .int .i64 c, .int .i64 d]] w _
  by_cases h5 : d % 256 = 255
  · have n5 : (d % 256 != 255) = false := by simp [h5]
    have x1 : comp a d = a % 256 * 257 := by unfold comp; rw [h5]; omega
    have x2 : comp b d = b % 256 * 257 := by unfold comp; rw [h5]; omega
    have x3 : comp c d = c % 256 * 257 := by unfold comp; rw [h5]; omega
    have x4 : d % 256 * 257 = 65535 := by omega
    have h5n : ¬ d % 256 = 0 := by omega
    have X := Lib.hid (And.intro (And.intro x1 x2) (And.intro x3 (And.intro x4 h5n)))
    clear x1 x2 x3 x4 h5n h5
    go_enter Try.func7, Try.ntmps7
    go_wp2_with fail
    refine (low_any _ hd _).mono ?_
    rintro e w1 ⟨rfl, rfl⟩
    go_wp2_with fail
    have bw : Below w.heap.size w (w.alloc (.cells #[.int .i64 a, .int .i64 b, .int .i64 c, .int .i64 d] 30)) := (Below.refl _ _).alloc (Nat.le_refl _) _
    go_region_held3 (fun w' => w'.cell? ⟨w.heap.size, 0, none⟩ = some (.int .i64 a) ∧ w'.cell? ⟨w.heap.size, 1, none⟩ = some (.int .i64 b) ∧ w'.cell? ⟨w.heap.size, 2, none⟩ = some (.int .i64 c) ∧ w'.cell? ⟨w.heap.size, 3, none⟩ = some (.int .i64 d)) (go_keep)
      (first
        | (go_at_call 17; refine (toColor4 _ _ _ _ _).mono ?_; rintro e wt ⟨rfl, bt⟩; obtain ⟨hct, _⟩ := bcell bt; have zt : w.heap.size < wt.heap.size := Nat.lt_of_lt_of_le (by first | assumption | simp) bt.size; have bw : Below w.heap.size w wt := (by first | exact bw.trans (bt.mono bw.size) | exact bw.drew.trans (bt.mono bw.size)))
        | (go_at_call 16; refine (nrgba_wide4 _ _ _ _ _).mono ?_; intro e wA h2; rw [X.out.1.1, X.out.1.2, X.out.2.1, X.out.2.2.1] at h2; obtain ⟨g, rfl, _, _, r1, _, _, bA⟩ := h2.rd ⟨by omega, by omega⟩ ⟨by omega, by omega⟩ ⟨by omega, by omega⟩ ⟨by omega, by omega⟩; obtain ⟨hcA, _⟩ := bcell bA; have zA : w.heap.size < wA.heap.size := Nat.lt_of_lt_of_le (by first | assumption | simp) bA.size; have bw : Below w.heap.size w wA := bw.trans (bA.mono bw.size); clear h2)
        | (go_at_call 19; refine (snrgba_some ⟨a, b, c, d⟩ ⟨ha, hb, hc, hd⟩ X.out.2.2.2 _).mono ?_; intro e wC h2; obtain ⟨g, rfl, _, _, r2, _, _, bC⟩ := h2.rd ⟨by omega, by omega⟩ ⟨by omega, by omega⟩ ⟨by omega, by omega⟩ ⟨by omega, by omega⟩; obtain ⟨hcC, _⟩ := bcell bC; have bw : Below w.heap.size w wC := bw.trans (bC.mono bw.size); clear h2)
        | (go_at_call 18; refine (same_true _ _ _ _ _ _ _ _ _ ((r1.below bt).below (bC.mono bt.size)) r2).mono ?_; rintro e wD ⟨rfl, k, rfl⟩))
    go_wp2
    go_ret
    exact ⟨rfl, below_drewN bw _⟩
  have n5 : (d % 256 != 255) = true := by simp [h5]
  by_cases h0 : d % 256 = 0
  · have n0 : (d % 256 != 0) = false := by simp [h0]
    have x1 : comp a d = 0 := by unfold comp; rw [h0]; omega
    have x2 : comp b d = 0 := by unfold comp; rw [h0]; omega
    have x3 : comp c d = 0 := by unfold comp; rw [h0]; omega
    have x4 : d % 256 * 257 = 0 := by omega
    have X := Lib.hid (And.intro (And.intro x1 x2) (And.intro x3 (And.intro x4 h0)))
    clear x1 x2 x3 x4 h0 h5
    go_enter Try.func7, Try.ntmps7
    go_wp2_with (go_at_call 15; refine (low_any _ hd _).mono ?_; rintro e w1 ⟨rfl, rfl⟩)
    have bw : Below w.heap.size w (w.alloc (.cells #[.int .i64 a, .int .i64 b, .int .i64 c, .int .i64 d] 30)) := (Below.refl _ _).alloc (Nat.le_refl _) _
    go_region_held3 (fun w' => w'.cell? ⟨w.heap.size, 0, none⟩ = some (.int .i64 a) ∧ w'.cell? ⟨w.heap.size, 1, none⟩ = some (.int .i64 b) ∧ w'.cell? ⟨w.heap.size, 2, none⟩ = some (.int .i64 c) ∧ w'.cell? ⟨w.heap.size, 3, none⟩ = some (.int .i64 d)) (go_keep)
      (first
        | (go_at_call 17; refine (toColor4 _ _ _ _ _).mono ?_; rintro e wt ⟨rfl, bt⟩; obtain ⟨hct, _⟩ := bcell bt; have zt : w.heap.size < wt.heap.size := Nat.lt_of_lt_of_le (by first | assumption | simp) bt.size; have bw : Below w.heap.size w wt := (by first | exact bw.trans (bt.mono bw.size) | exact bw.drew.trans (bt.mono bw.size)))
        | (go_at_call 16; refine (nrgba_wide4 _ _ _ _ _).mono ?_; intro e wA h2; rw [X.out.1.1, X.out.1.2, X.out.2.1, X.out.2.2.1] at h2; obtain ⟨g, rfl, _, _, r1, _, _, bA⟩ := h2.rd ⟨by omega, by omega⟩ ⟨by omega, by omega⟩ ⟨by omega, by omega⟩ ⟨by omega, by omega⟩; obtain ⟨hcA, _⟩ := bcell bA; have zA : w.heap.size < wA.heap.size := Nat.lt_of_lt_of_le (by first | assumption | simp) bA.size; have bw : Below w.heap.size w wA := bw.trans (bA.mono bw.size); clear h2)
        | (go_at_call 19; refine (snrgba_zero ⟨a, b, c, d⟩ ⟨ha, hb, hc, hd⟩ X.out.2.2.2 _).mono ?_; intro e wC h2; obtain ⟨g, rfl, _, _, r2, _, _, bC⟩ := h2.rd ⟨by omega, by omega⟩ ⟨by omega, by omega⟩ ⟨by omega, by omega⟩ ⟨by omega, by omega⟩; obtain ⟨hcC, _⟩ := bcell bC; have bw : Below w.heap.size w wC := bw.trans (bC.mono bw.size); clear h2)
        | (go_at_call 18; refine (same_true _ _ _ _ _ _ _ _ _ ((r1.below bt).below (bC.mono bt.size)) r2).mono ?_; rintro e wD ⟨rfl, k, rfl⟩))
    go_wp2
    go_ret
    exact ⟨rfl, below_drewN bw _⟩
  · have n0 : (d % 256 != 0) = true := by simp [h0]
    clear h0 h5
    go_enter Try.func7, Try.ntmps7
    go_wp2_with (go_at_call 15; refine (low_any _ hd _).mono ?_; rintro e w1 ⟨rfl, rfl⟩)
    go_ret
    exact ⟨rfl, (Below.refl _ _).alloc (Nat.le_refl _) _⟩

end Go.Proofs.Ytclmeimgjjnllaa

/-
  Walks of laws on new gray images and on reading them. No condition.
-/
import Derived.Test.YtpijljokcoocpaaH1
import Derived.Test.YtpijljokcoocpaaS4
import Derived.Deep.RegionWith
namespace Go.Proofs.Ytpijljokcoocpaa
open Go.ChangeShapes Go.WideShapes Go.ChangeAt Go.RowKit
set_option linter.unusedVariables false
set_option linter.unusedSimpArgs false

theorem byt_nil (N : Nat) : byt N [] = List.replicate N 0 := by
  apply List.ext_getElem
  · simp [byt_length]
  · intro i h1 h2; simp [byt]

theorem fine_area {a b c d : Int} (h : Fine a b c d) : 0 ≤ c - a ∧ c - a ≤ 1000 ∧ 0 ≤ d - b ∧ d - b ≤ 1000 ∧ ∃ N : Nat, (c - a) * (d - b) = N := by
  obtain ⟨h1, h2, h3, h4, h5, h6, h7, h8⟩ := h
  exact ⟨by omega, by omega, by omega, by omega, ((c - a) * (d - b)).toNat, by have := Int.mul_nonneg (show 0 ≤ c - a by omega) (show 0 ≤ d - b by omega); omega⟩

set_option maxRecDepth 100000 in
theorem fnGrayNew_walk (w : World) (q : Q4) (hq : q.ok) :
    Calls Try.prog 3 #[q.val] w fun e w' => e = .returned (.bool true) ∧ Below w.heap.size w w' := by
  obtain ⟨a, b, c, d⟩ := q
  obtain ⟨ha, hb, hc, hd⟩ := hq
  show Calls Try.prog 3 #[.agg #[.int .i64 a, .int .i64 b, .int .i64 c, .int .i64 d]] w _
  have bw : Below w.heap.size w (w.alloc (.cells #[.int .i64 a, .int .i64 b, .int .i64 c, .int .i64 d] 23)) := (Below.refl _ _).alloc (Nat.le_refl _) _
  by_cases hf : Fine a b c d
  · obtain ⟨h3, h4, h5, h6, N, hN⟩ := fine_area hf
    have HF := Lib.hid hf
    have HN := Lib.hid hN
    clear hf hN
    go_enter Try.func3, Try.ntmps3
    go_wp2_with fail
    go_region_held3 (fun w' => w'.cell? ⟨w.heap.size, 0, none⟩ = some (.int .i64 a) ∧ w'.cell? ⟨w.heap.size, 1, none⟩ = some (.int .i64 b) ∧ w'.cell? ⟨w.heap.size, 2, none⟩ = some (.int .i64 c) ∧ w'.cell? ⟨w.heap.size, 3, none⟩ = some (.int .i64 d)) (go_keep)
      (first
        | (go_at_call 22; refine (fine_yes _ _ _ _ HF.out _).mono ?_; rintro e wbf ⟨rfl, bf⟩; obtain ⟨hcbf, _⟩ := bcell bf; have zbf0 : w.heap.size < wbf.heap.size := Nat.lt_of_lt_of_le (by first | assumption | (simp; omega) | simp) bf.size; have bw : Below w.heap.size w wbf := (by first | exact bw.trans (bf.mono bw.size) | exact bw.drew.trans (bf.mono bw.size)))
        | (go_at_call 25; refine (toRect4 _ _ _ _ _).mono ?_; rintro e wbt ⟨rfl, bt⟩; obtain ⟨hcbt, _⟩ := bcell bt; have zbt0 : w.heap.size < wbt.heap.size := Nat.lt_of_lt_of_le (by first | assumption | (simp; omega) | simp) bt.size; have bw : Below w.heap.size w wbt := (by first | exact bw.trans (bt.mono bw.size) | exact bw.drew.trans (bt.mono bw.size)); try (have r1 := (r1.below bt).more bt.size))
        | (go_at_call 24; refine (grayNew_any _ _ _ _ N h3 h4 h5 h6 HN.out _).mono ?_; rintro e wbg ⟨A1, cp1, rfl, r1, lo1, bg⟩; obtain ⟨hcbg, _⟩ := bcell bg; have zbg0 : w.heap.size < wbg.heap.size := Nat.lt_of_lt_of_le (by first | assumption | (simp; omega) | simp) bg.size; have bw : Below w.heap.size w wbg := (by first | exact bw.trans (bg.mono bw.size) | exact bw.drew.trans (bg.mono bw.size)))
        | (go_at_call 26; refine (sgrayNew_any _ _ _ _ N h3 h4 h5 h6 HN.out _).mono ?_; rintro e wbs ⟨A2, cp2, rfl, r2, lo2, bs⟩; obtain ⟨hcbs, _⟩ := bcell bs; have zbs0 : w.heap.size < wbs.heap.size := Nat.lt_of_lt_of_le (by first | assumption | (simp; omega) | simp) bs.size; have bw : Below w.heap.size w wbs := (by first | exact bw.trans (bs.mono bw.size) | exact bw.drew.trans (bs.mono bw.size)); try (have r1 := (r1.below bs).more bs.size))
        | (go_at_call 23; refine (samePic_true _ _ _ _ _ _ _ _ _ _ (List.replicate N 0) _ r1 (by rw [byt_nil] at r2; exact r2)).mono ?_; rintro e wbp ⟨rfl, bp⟩; obtain ⟨hcbp, _⟩ := bcell bp; have zbp0 : w.heap.size < wbp.heap.size := Nat.lt_of_lt_of_le (by first | assumption | (simp; omega) | simp) bp.size; have bw : Below w.heap.size w wbp := (by first | exact bw.trans (bp.mono bw.size) | exact bw.drew.trans (bp.mono bw.size))))
    go_wp2
    go_ret
    exact ⟨rfl, bw⟩
  · have HF := Lib.hid hf
    clear hf
    go_enter Try.func3, Try.ntmps3
    go_wp2_with fail
    go_region_with (go_at_call 22; refine (fine_no _ _ _ _ ha hb hc hd HF.out _).mono ?_; rintro e w1 ⟨rfl, b1⟩)
    all_goals go_wp2
    all_goals go_ret
    all_goals exact ⟨rfl, bw.drew.trans (b1.mono bw.size)⟩

end Go.Proofs.Ytpijljokcoocpaa

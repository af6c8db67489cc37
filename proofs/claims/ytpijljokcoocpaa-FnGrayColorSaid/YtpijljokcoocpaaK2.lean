/-
  Walks of laws on reading gray images. No condition.
-/
import Derived.Test.YtpijljokcoocpaaK1
import Derived.Test.YtpijljokcoocpaaK0
namespace Go.Proofs.Ytpijljokcoocpaa
open Go.ChangeShapes Go.WideShapes Go.ChangeAt Go.RowKit
set_option linter.unusedVariables false
set_option linter.unusedSimpArgs false

set_option maxRecDepth 100000 in
set_option maxHeartbeats 4000000 in
theorem fnGrayRead_walk (w : World) (q : Q4) (hq : q.ok) (Z : Option Addr) (n cp : Nat) (zs : List Int) (hr : Rd w w.heap.size Z n zs) (x : Int) (hx : I64 x) (y : Int) (hy : I64 y) :
    Calls Try.prog 5 #[q.val, .slice Z n cp, .int .i64 x, .int .i64 y] w fun e w' => e = .returned (.bool true) ∧ Below w.heap.size w w' := by
  obtain ⟨a, b, c, d⟩ := q
  obtain ⟨ha, hb, hc, hd⟩ := hq
  show Calls Try.prog 5 #[.agg #[.int .i64 a, .int .i64 b, .int .i64 c, .int .i64 d], .slice Z n cp, .int .i64 x, .int .i64 y] w _
  have HR := Lib.hid hr
  clear hr
  have hrs := rect_same a b c d
  have hp0 := fun st v => pfld0 a b c d st v
  by_cases hf : Fine a b c d
  · obtain ⟨h3, h4, h5, h6, N, hN⟩ := fine_area hf
    have HF := Lib.hid hf
    have HN := Lib.hid hN
    clear hf hN
    by_cases hin : In a b c d x y
    · have HI := Lib.hid hin
      clear hin
      go_enter Try.func5, Try.ntmps5
      go_wp2_with fail
      refine (toRect4 _ _ _ _ _).mono ?_
      rintro e w1 ⟨rfl, b1⟩
      have z0 : w.heap.size < w1.heap.size := Nat.lt_of_lt_of_le (by simp) b1.size
      have z1 : w.heap.size < w1.heap.size + 1 := by omega
      have z2 : ¬ w.heap.size = w1.heap.size := by omega
      have z3 : w1.heap.size < w1.heap.size + 1 := by omega
      obtain ⟨hc1, _⟩ := bcell b1
      have c0 : w1.cell? ⟨w.heap.size, 0, none⟩ = some (.int .i64 a) := by rw [hc1 w.heap.size 0 (by simp)]; simp
      have c1 : w1.cell? ⟨w.heap.size, 1, none⟩ = some (.int .i64 b) := by rw [hc1 w.heap.size 1 (by simp)]; simp
      have c2 : w1.cell? ⟨w.heap.size, 2, none⟩ = some (.int .i64 c) := by rw [hc1 w.heap.size 2 (by simp)]; simp
      have c3 : w1.cell? ⟨w.heap.size, 3, none⟩ = some (.int .i64 d) := by rw [hc1 w.heap.size 3 (by simp)]; simp
      have bw0 : Below w.heap.size w w1 := ((Below.refl _ _).alloc (Nat.le_refl _) _).trans (b1.mono (by simp))
      have bw : Below w.heap.size w (w1.alloc (.cells #[.int .i64 a, .int .i64 b, .int .i64 c, .int .i64 d] 26)) := bw0.alloc bw0.size _
      clear hc1 b1
      go_wp2_with fail
      go_region_held3 (fun w' => w'.cell? ⟨w.heap.size, 0, none⟩ = some (.int .i64 a) ∧ w'.cell? ⟨w.heap.size, 1, none⟩ = some (.int .i64 b) ∧ w'.cell? ⟨w.heap.size, 2, none⟩ = some (.int .i64 c) ∧ w'.cell? ⟨w.heap.size, 3, none⟩ = some (.int .i64 d) ∧ w'.cell? ⟨w1.heap.size, 0, none⟩ = some (.int .i64 a) ∧ w'.cell? ⟨w1.heap.size, 1, none⟩ = some (.int .i64 b) ∧ w'.cell? ⟨w1.heap.size, 2, none⟩ = some (.int .i64 c) ∧ w'.cell? ⟨w1.heap.size, 3, none⟩ = some (.int .i64 d)) (go_keep)
        (first
        | (go_at_call 22; refine (fine_yes _ _ _ _ HF.out _).mono ?_; rintro e wbf ⟨rfl, bf⟩; obtain ⟨hcbf, _⟩ := bcell bf; have zbf0 : w.heap.size < wbf.heap.size := Nat.lt_of_lt_of_le (by first | assumption | (simp; omega) | simp) bf.size; have zbf1 : w1.heap.size < wbf.heap.size := Nat.lt_of_lt_of_le (by first | assumption | (simp; omega) | simp) bf.size; have bw : Below w.heap.size w wbf := (by first | exact bw.trans (bf.mono bw.size) | exact bw.drew.trans (bf.mono bw.size)))
        | (go_at_call 28; refine (has_yes _ _ _ _ _ _ HI.out _).mono ?_; rintro e wbh ⟨rfl, bh⟩; obtain ⟨hcbh, _⟩ := bcell bh; have zbh0 : w.heap.size < wbh.heap.size := Nat.lt_of_lt_of_le (by first | assumption | (simp; omega) | simp) bh.size; have zbh1 : w1.heap.size < wbh.heap.size := Nat.lt_of_lt_of_le (by first | assumption | (simp; omega) | simp) bh.size; have bw : Below w.heap.size w wbh := (by first | exact bw.trans (bh.mono bw.size) | exact bw.drew.trans (bh.mono bw.size)))
        | (go_at_call 29; refine (grayRead_any a b c d N h3 h4 h5 h6 HN.out n cp Z zs x y _ (by first | exact (HR.out.below bw).more bw.size | exact (HR.out.below bw.drew).more bw.size)).mono ?_; rintro e wbr ⟨rfl, br⟩; obtain ⟨hcbr, _⟩ := bcell br; have zbr0 : w.heap.size < wbr.heap.size := Nat.lt_of_lt_of_le (by first | assumption | (simp; omega) | simp) br.size; have zbr1 : w1.heap.size < wbr.heap.size := Nat.lt_of_lt_of_le (by first | assumption | (simp; omega) | simp) br.size; have bw : Below w.heap.size w wbr := (by first | exact bw.trans (br.mono bw.size) | exact bw.drew.trans (br.mono bw.size)))
        | (go_at_call 30; refine (sgrayRead_any a b c d N h3 h4 h5 h6 HN.out n cp Z zs x y _ (by first | exact (HR.out.below bw).more bw.size | exact (HR.out.below bw.drew).more bw.size)).mono ?_; rintro e wbs ⟨rfl, bs⟩; obtain ⟨hcbs, _⟩ := bcell bs; have zbs0 : w.heap.size < wbs.heap.size := Nat.lt_of_lt_of_le (by first | assumption | (simp; omega) | simp) bs.size; have zbs1 : w1.heap.size < wbs.heap.size := Nat.lt_of_lt_of_le (by first | assumption | (simp; omega) | simp) bs.size; have bw : Below w.heap.size w wbs := (by first | exact bw.trans (bs.mono bw.size) | exact bw.drew.trans (bs.mono bw.size))))
      go_wp2
      go_ret
      exact ⟨rfl, bw⟩
    · have HI := Lib.hid hin
      clear hin
      go_enter Try.func5, Try.ntmps5
      go_wp2_with fail
      refine (toRect4 _ _ _ _ _).mono ?_
      rintro e w1 ⟨rfl, b1⟩
      have z0 : w.heap.size < w1.heap.size := Nat.lt_of_lt_of_le (by simp) b1.size
      have z1 : w.heap.size < w1.heap.size + 1 := by omega
      have z2 : ¬ w.heap.size = w1.heap.size := by omega
      have z3 : w1.heap.size < w1.heap.size + 1 := by omega
      obtain ⟨hc1, _⟩ := bcell b1
      have c0 : w1.cell? ⟨w.heap.size, 0, none⟩ = some (.int .i64 a) := by rw [hc1 w.heap.size 0 (by simp)]; simp
      have c1 : w1.cell? ⟨w.heap.size, 1, none⟩ = some (.int .i64 b) := by rw [hc1 w.heap.size 1 (by simp)]; simp
      have c2 : w1.cell? ⟨w.heap.size, 2, none⟩ = some (.int .i64 c) := by rw [hc1 w.heap.size 2 (by simp)]; simp
      have c3 : w1.cell? ⟨w.heap.size, 3, none⟩ = some (.int .i64 d) := by rw [hc1 w.heap.size 3 (by simp)]; simp
      have bw0 : Below w.heap.size w w1 := ((Below.refl _ _).alloc (Nat.le_refl _) _).trans (b1.mono (by simp))
      have bw : Below w.heap.size w (w1.alloc (.cells #[.int .i64 a, .int .i64 b, .int .i64 c, .int .i64 d] 26)) := bw0.alloc bw0.size _
      clear hc1 b1
      go_wp2_with fail
      refine wp_region_held_drew (S := (fun w' => w'.cell? ⟨w.heap.size, 0, none⟩ = some (.int .i64 a) ∧ w'.cell? ⟨w.heap.size, 1, none⟩ = some (.int .i64 b) ∧ w'.cell? ⟨w.heap.size, 2, none⟩ = some (.int .i64 c) ∧ w'.cell? ⟨w.heap.size, 3, none⟩ = some (.int .i64 d) ∧ w'.cell? ⟨w1.heap.size, 0, none⟩ = some (.int .i64 a) ∧ w'.cell? ⟨w1.heap.size, 1, none⟩ = some (.int .i64 b) ∧ w'.cell? ⟨w1.heap.size, 2, none⟩ = some (.int .i64 c) ∧ w'.cell? ⟨w1.heap.size, 3, none⟩ = some (.int .i64 d))) (by kernel_rfl) (by go_keep) ?_
      intro hHeld
      refine take_at (i := 0) (D := 12) (v := .agg #[.int .i64 a, .int .i64 b, .int .i64 c, .int .i64 d]) rfl rfl (by kernel_rfl) (by kernel_rfl) (by kernel_rfl) (fun _ _ _ h => h) (Or.inl ⟨by rfl, fun W hSw => by (try dsimp only at hSw); go_simp⟩) (by assumption) ?_
      (try simp only [List.setIfInBounds_toArray, List.set_cons_zero, List.set_cons_succ])
      refine wpAnyH_ready (rs := [1]) (by kernel_rfl) (by simp) ?_
      refine AllReadyH.cons rfl (fun K hK => ?_) AllReadyH.nil
      go_simp
      refine (fine_yes _ _ _ _ HF.out _).mono ?_
      rintro e wbf ⟨rfl, bf⟩; obtain ⟨hcbf, _⟩ := bcell bf; have zbf0 : w.heap.size < wbf.heap.size := Nat.lt_of_lt_of_le (by first | assumption | (simp; omega) | simp) bf.size; have zbf1 : w1.heap.size < wbf.heap.size := Nat.lt_of_lt_of_le (by first | assumption | (simp; omega) | simp) bf.size; have bw : Below w.heap.size w wbf := (by first | exact bw.trans (bf.mono bw.size) | exact bw.drew.trans (bf.mono bw.size))
      refine hK.out _ _ ?_ (fun hHeld => ?_)
      · (try dsimp only); go_keep
      clear hK K
      (try simp only [List.setIfInBounds_toArray, List.set_cons_zero, List.set_cons_succ])
      refine take_at (i := 2) (D := 14) (v := .bool false) rfl rfl (by kernel_rfl) (by kernel_rfl) (by kernel_rfl) (fun _ _ _ h => h) (Or.inl ⟨by rfl, fun W hSw => by (try dsimp only at hSw); go_simp⟩) (by assumption) ?_
      (try simp only [List.setIfInBounds_toArray, List.set_cons_zero, List.set_cons_succ])
      refine take_at (i := 3) (D := 15) (v := .bool false) rfl rfl (by kernel_rfl) (by kernel_rfl) (by kernel_rfl) (fun _ _ _ h => h) (Or.inl ⟨by rfl, fun W hSw => by (try dsimp only at hSw); go_simp⟩) (by assumption) ?_
      (try simp only [List.setIfInBounds_toArray, List.set_cons_zero, List.set_cons_succ])
      refine take_at (i := 4) (D := 16) (v := .agg #[.int .i64 a, .int .i64 b, .int .i64 c, .int .i64 d]) rfl rfl (by kernel_rfl) (by kernel_rfl) (by kernel_rfl) (fun _ _ _ h => h) (Or.inl ⟨by rfl, fun W hSw => by (try dsimp only at hSw); go_simp⟩) (by assumption) ?_
      (try simp only [List.setIfInBounds_toArray, List.set_cons_zero, List.set_cons_succ])
      refine take_at (i := 5) (D := 17) (v := .int .i64 x) rfl rfl (by kernel_rfl) (by kernel_rfl) (by kernel_rfl) (fun _ _ _ h => h) (Or.inl ⟨by rfl, fun W hSw => by (try dsimp only at hSw); go_simp⟩) (by assumption) ?_
      (try simp only [List.setIfInBounds_toArray, List.set_cons_zero, List.set_cons_succ])
      refine take_at (i := 6) (D := 18) (v := .int .i64 y) rfl rfl (by kernel_rfl) (by kernel_rfl) (by kernel_rfl) (fun _ _ _ h => h) (Or.inl ⟨by rfl, fun W hSw => by (try dsimp only at hSw); go_simp⟩) (by assumption) ?_
      (try simp only [List.setIfInBounds_toArray, List.set_cons_zero, List.set_cons_succ])
      refine wpAnyH_ready (rs := [7]) (by kernel_rfl) (by simp) ?_
      refine AllReadyH.cons rfl (fun K hK => ?_) AllReadyH.nil
      go_simp
      refine (has_no _ _ _ _ _ _ HI.out _).mono ?_
      rintro e wbh ⟨rfl, bh⟩; obtain ⟨hcbh, _⟩ := bcell bh; have zbh0 : w.heap.size < wbh.heap.size := Nat.lt_of_lt_of_le (by first | assumption | (simp; omega) | simp) bh.size; have zbh1 : w1.heap.size < wbh.heap.size := Nat.lt_of_lt_of_le (by first | assumption | (simp; omega) | simp) bh.size; have bw : Below w.heap.size w wbh := (by first | exact bw.trans (bh.mono bw.size) | exact bw.drew.trans (bh.mono bw.size))
      refine hK.out _ _ ?_ (fun hHeld => ?_)
      · (try dsimp only); go_keep
      clear hK K
      (try simp only [List.setIfInBounds_toArray, List.set_cons_zero, List.set_cons_succ])
      refine take_at (i := 8) (D := 20) (v := .bool true) rfl rfl (by kernel_rfl) (by kernel_rfl) (by kernel_rfl) (fun _ _ _ h => h) (Or.inl ⟨by rfl, fun W hSw => by (try dsimp only at hSw); go_simp⟩) (by assumption) ?_
      (try simp only [List.setIfInBounds_toArray, List.set_cons_zero, List.set_cons_succ])
      refine take_at (i := 9) (D := 21) (v := .bool true) rfl rfl (by kernel_rfl) (by kernel_rfl) (by kernel_rfl) (fun _ _ _ h => h) (Or.inl ⟨by rfl, fun W hSw => by (try dsimp only at hSw); go_simp⟩) (by assumption) ?_
      (try simp only [List.setIfInBounds_toArray, List.set_cons_zero, List.set_cons_succ])
      refine take_at (i := 10) (D := 22) (v := .bool true) rfl rfl (by kernel_rfl) (by kernel_rfl) (by kernel_rfl) (fun _ _ _ h => h) (Or.inl ⟨by rfl, fun W hSw => by (try dsimp only at hSw); go_simp⟩) (by assumption) ?_
      (try simp only [List.setIfInBounds_toArray, List.set_cons_zero, List.set_cons_succ])
      refine take_at (i := 11) (D := 23) (v := undef) rfl rfl (by kernel_rfl) (by kernel_rfl) (by kernel_rfl) (fun _ _ _ h => h) (Or.inr ⟨by rfl, rfl⟩) (by assumption) ?_
      (try simp only [List.setIfInBounds_toArray, List.set_cons_zero, List.set_cons_succ])
      refine take_at (i := 12) (D := 24) (v := undef) rfl rfl (by kernel_rfl) (by kernel_rfl) (by kernel_rfl) (fun _ _ _ h => h) (Or.inr ⟨by rfl, rfl⟩) (by assumption) ?_
      (try simp only [List.setIfInBounds_toArray, List.set_cons_zero, List.set_cons_succ])
      refine take_at (i := 13) (D := 25) (v := undef) rfl rfl (by kernel_rfl) (by kernel_rfl) (by kernel_rfl) (fun _ _ _ h => h) (Or.inr ⟨by rfl, rfl⟩) (by assumption) ?_
      (try simp only [List.setIfInBounds_toArray, List.set_cons_zero, List.set_cons_succ])
      refine take_at (i := 14) (D := 26) (v := undef) rfl rfl (by kernel_rfl) (by kernel_rfl) (by kernel_rfl) (fun _ _ _ h => h) (Or.inr ⟨by rfl, rfl⟩) (by assumption) ?_
      (try simp only [List.setIfInBounds_toArray, List.set_cons_zero, List.set_cons_succ])
      refine take_at (i := 15) (D := 27) (v := undef) rfl rfl (by kernel_rfl) (by kernel_rfl) (by kernel_rfl) (fun _ _ _ h => h) (Or.inr ⟨by rfl, rfl⟩) (by assumption) ?_
      (try simp only [List.setIfInBounds_toArray, List.set_cons_zero, List.set_cons_succ])
      refine take_at (i := 16) (D := 28) (v := undef) rfl rfl (by kernel_rfl) (by kernel_rfl) (by kernel_rfl) (fun _ _ _ h => h) (Or.inr ⟨by rfl, rfl⟩) (by assumption) ?_
      (try simp only [List.setIfInBounds_toArray, List.set_cons_zero, List.set_cons_succ])
      refine take_at (i := 17) (D := 29) (v := undef) rfl rfl (by kernel_rfl) (by kernel_rfl) (by kernel_rfl) (fun _ _ _ h => h) (Or.inr ⟨by rfl, rfl⟩) (by assumption) ?_
      (try simp only [List.setIfInBounds_toArray, List.set_cons_zero, List.set_cons_succ])
      refine take_at (i := 18) (D := 30) (v := undef) rfl rfl (by kernel_rfl) (by kernel_rfl) (by kernel_rfl) (fun _ _ _ h => h) (Or.inr ⟨by rfl, rfl⟩) (by assumption) ?_
      (try simp only [List.setIfInBounds_toArray, List.set_cons_zero, List.set_cons_succ])
      refine take_at (i := 19) (D := 31) (v := undef) rfl rfl (by kernel_rfl) (by kernel_rfl) (by kernel_rfl) (fun _ _ _ h => h) (Or.inr ⟨by rfl, rfl⟩) (by assumption) ?_
      (try simp only [List.setIfInBounds_toArray, List.set_cons_zero, List.set_cons_succ])
      refine take_at (i := 20) (D := 32) (v := undef) rfl rfl (by kernel_rfl) (by kernel_rfl) (by kernel_rfl) (fun _ _ _ h => h) (Or.inr ⟨by rfl, rfl⟩) (by assumption) ?_
      (try simp only [List.setIfInBounds_toArray, List.set_cons_zero, List.set_cons_succ])
      refine take_at (i := 21) (D := 33) (v := undef) rfl rfl (by kernel_rfl) (by kernel_rfl) (by kernel_rfl) (fun _ _ _ h => h) (Or.inr ⟨by rfl, rfl⟩) (by assumption) ?_
      (try simp only [List.setIfInBounds_toArray, List.set_cons_zero, List.set_cons_succ])
      refine take_at (i := 22) (D := 34) (v := .bool true) rfl rfl (by kernel_rfl) (by kernel_rfl) (by kernel_rfl) (fun _ _ _ h => h) (Or.inl ⟨by rfl, fun W hSw => by (try dsimp only at hSw); go_simp⟩) (by assumption) ?_
      (try simp only [List.setIfInBounds_toArray, List.set_cons_zero, List.set_cons_succ])
      refine take_at (i := 23) (D := 8) (v := .bool true) rfl rfl (by kernel_rfl) (by kernel_rfl) (by kernel_rfl) (fun _ _ _ h => h) (Or.inl ⟨by rfl, fun W hSw => by (try dsimp only at hSw); go_simp⟩) (by assumption) ?_
      (try simp only [List.setIfInBounds_toArray, List.set_cons_zero, List.set_cons_succ])
      refine wpAnyH_done (by kernel_rfl) ?_ _
      go_wp2
      go_ret
      exact ⟨rfl, bw⟩
  · have HF := Lib.hid hf
    clear hf
    go_enter Try.func5, Try.ntmps5
    go_wp2_with fail
    refine (toRect4 _ _ _ _ _).mono ?_
    rintro e w1 ⟨rfl, b1⟩
    have z0 : w.heap.size < w1.heap.size := Nat.lt_of_lt_of_le (by simp) b1.size
    have z1 : w.heap.size < w1.heap.size + 1 := by omega
    have z2 : ¬ w.heap.size = w1.heap.size := by omega
    have z3 : w1.heap.size < w1.heap.size + 1 := by omega
    obtain ⟨hc1, _⟩ := bcell b1
    have c0 : w1.cell? ⟨w.heap.size, 0, none⟩ = some (.int .i64 a) := by rw [hc1 w.heap.size 0 (by simp)]; simp
    have c1 : w1.cell? ⟨w.heap.size, 1, none⟩ = some (.int .i64 b) := by rw [hc1 w.heap.size 1 (by simp)]; simp
    have c2 : w1.cell? ⟨w.heap.size, 2, none⟩ = some (.int .i64 c) := by rw [hc1 w.heap.size 2 (by simp)]; simp
    have c3 : w1.cell? ⟨w.heap.size, 3, none⟩ = some (.int .i64 d) := by rw [hc1 w.heap.size 3 (by simp)]; simp
    have bw0 : Below w.heap.size w w1 := ((Below.refl _ _).alloc (Nat.le_refl _) _).trans (b1.mono (by simp))
    have bw : Below w.heap.size w (w1.alloc (.cells #[.int .i64 a, .int .i64 b, .int .i64 c, .int .i64 d] 26)) := bw0.alloc bw0.size _
    clear hc1 b1
    go_wp2_with fail
    refine wp_region_held_drew (S := (fun w' => w'.cell? ⟨w.heap.size, 0, none⟩ = some (.int .i64 a) ∧ w'.cell? ⟨w.heap.size, 1, none⟩ = some (.int .i64 b) ∧ w'.cell? ⟨w.heap.size, 2, none⟩ = some (.int .i64 c) ∧ w'.cell? ⟨w.heap.size, 3, none⟩ = some (.int .i64 d) ∧ w'.cell? ⟨w1.heap.size, 0, none⟩ = some (.int .i64 a) ∧ w'.cell? ⟨w1.heap.size, 1, none⟩ = some (.int .i64 b) ∧ w'.cell? ⟨w1.heap.size, 2, none⟩ = some (.int .i64 c) ∧ w'.cell? ⟨w1.heap.size, 3, none⟩ = some (.int .i64 d))) (by kernel_rfl) (by go_keep) ?_
    intro hHeld
    refine take_at (i := 0) (D := 12) (v := .agg #[.int .i64 a, .int .i64 b, .int .i64 c, .int .i64 d]) rfl rfl (by kernel_rfl) (by kernel_rfl) (by kernel_rfl) (fun _ _ _ h => h) (Or.inl ⟨by rfl, fun W hSw => by (try dsimp only at hSw); go_simp⟩) (by assumption) ?_
    (try simp only [List.setIfInBounds_toArray, List.set_cons_zero, List.set_cons_succ])
    refine wpAnyH_ready (rs := [1]) (by kernel_rfl) (by simp) ?_
    refine AllReadyH.cons rfl (fun K hK => ?_) AllReadyH.nil
    go_simp
    refine (fine_no _ _ _ _ ha hb hc hd HF.out _).mono ?_
    rintro e wbf ⟨rfl, bf⟩; obtain ⟨hcbf, _⟩ := bcell bf; have zbf0 : w.heap.size < wbf.heap.size := Nat.lt_of_lt_of_le (by first | assumption | (simp; omega) | simp) bf.size; have zbf1 : w1.heap.size < wbf.heap.size := Nat.lt_of_lt_of_le (by first | assumption | (simp; omega) | simp) bf.size; have bw : Below w.heap.size w wbf := (by first | exact bw.trans (bf.mono bw.size) | exact bw.drew.trans (bf.mono bw.size))
    refine hK.out _ _ ?_ (fun hHeld => ?_)
    · (try dsimp only); go_keep
    clear hK K
    (try simp only [List.setIfInBounds_toArray, List.set_cons_zero, List.set_cons_succ])
    refine take_at (i := 2) (D := 14) (v := .bool true) rfl rfl (by kernel_rfl) (by kernel_rfl) (by kernel_rfl) (fun _ _ _ h => h) (Or.inl ⟨by rfl, fun W hSw => by (try dsimp only at hSw); go_simp⟩) (by assumption) ?_
    (try simp only [List.setIfInBounds_toArray, List.set_cons_zero, List.set_cons_succ])
    refine take_at (i := 3) (D := 15) (v := .bool true) rfl rfl (by kernel_rfl) (by kernel_rfl) (by kernel_rfl) (fun _ _ _ h => h) (Or.inl ⟨by rfl, fun W hSw => by (try dsimp only at hSw); go_simp⟩) (by assumption) ?_
    (try simp only [List.setIfInBounds_toArray, List.set_cons_zero, List.set_cons_succ])
    refine take_at (i := 4) (D := 16) (v := undef) rfl rfl (by kernel_rfl) (by kernel_rfl) (by kernel_rfl) (fun _ _ _ h => h) (Or.inr ⟨by rfl, rfl⟩) (by assumption) ?_
    (try simp only [List.setIfInBounds_toArray, List.set_cons_zero, List.set_cons_succ])
    refine take_at (i := 5) (D := 17) (v := undef) rfl rfl (by kernel_rfl) (by kernel_rfl) (by kernel_rfl) (fun _ _ _ h => h) (Or.inr ⟨by rfl, rfl⟩) (by assumption) ?_
    (try simp only [List.setIfInBounds_toArray, List.set_cons_zero, List.set_cons_succ])
    refine take_at (i := 6) (D := 18) (v := undef) rfl rfl (by kernel_rfl) (by kernel_rfl) (by kernel_rfl) (fun _ _ _ h => h) (Or.inr ⟨by rfl, rfl⟩) (by assumption) ?_
    (try simp only [List.setIfInBounds_toArray, List.set_cons_zero, List.set_cons_succ])
    refine take_at (i := 7) (D := 19) (v := undef) rfl rfl (by kernel_rfl) (by kernel_rfl) (by kernel_rfl) (fun _ _ _ h => h) (Or.inr ⟨by rfl, rfl⟩) (by assumption) ?_
    (try simp only [List.setIfInBounds_toArray, List.set_cons_zero, List.set_cons_succ])
    refine take_at (i := 8) (D := 20) (v := undef) rfl rfl (by kernel_rfl) (by kernel_rfl) (by kernel_rfl) (fun _ _ _ h => h) (Or.inr ⟨by rfl, rfl⟩) (by assumption) ?_
    (try simp only [List.setIfInBounds_toArray, List.set_cons_zero, List.set_cons_succ])
    refine take_at (i := 9) (D := 21) (v := .bool true) rfl rfl (by kernel_rfl) (by kernel_rfl) (by kernel_rfl) (fun _ _ _ h => h) (Or.inl ⟨by rfl, fun W hSw => by (try dsimp only at hSw); go_simp⟩) (by assumption) ?_
    (try simp only [List.setIfInBounds_toArray, List.set_cons_zero, List.set_cons_succ])
    refine take_at (i := 10) (D := 22) (v := .bool true) rfl rfl (by kernel_rfl) (by kernel_rfl) (by kernel_rfl) (fun _ _ _ h => h) (Or.inl ⟨by rfl, fun W hSw => by (try dsimp only at hSw); go_simp⟩) (by assumption) ?_
    (try simp only [List.setIfInBounds_toArray, List.set_cons_zero, List.set_cons_succ])
    refine take_at (i := 11) (D := 23) (v := undef) rfl rfl (by kernel_rfl) (by kernel_rfl) (by kernel_rfl) (fun _ _ _ h => h) (Or.inr ⟨by rfl, rfl⟩) (by assumption) ?_
    (try simp only [List.setIfInBounds_toArray, List.set_cons_zero, List.set_cons_succ])
    refine take_at (i := 12) (D := 24) (v := undef) rfl rfl (by kernel_rfl) (by kernel_rfl) (by kernel_rfl) (fun _ _ _ h => h) (Or.inr ⟨by rfl, rfl⟩) (by assumption) ?_
    (try simp only [List.setIfInBounds_toArray, List.set_cons_zero, List.set_cons_succ])
    refine take_at (i := 13) (D := 25) (v := undef) rfl rfl (by kernel_rfl) (by kernel_rfl) (by kernel_rfl) (fun _ _ _ h => h) (Or.inr ⟨by rfl, rfl⟩) (by assumption) ?_
    (try simp only [List.setIfInBounds_toArray, List.set_cons_zero, List.set_cons_succ])
    refine take_at (i := 14) (D := 26) (v := undef) rfl rfl (by kernel_rfl) (by kernel_rfl) (by kernel_rfl) (fun _ _ _ h => h) (Or.inr ⟨by rfl, rfl⟩) (by assumption) ?_
    (try simp only [List.setIfInBounds_toArray, List.set_cons_zero, List.set_cons_succ])
    refine take_at (i := 15) (D := 27) (v := undef) rfl rfl (by kernel_rfl) (by kernel_rfl) (by kernel_rfl) (fun _ _ _ h => h) (Or.inr ⟨by rfl, rfl⟩) (by assumption) ?_
    (try simp only [List.setIfInBounds_toArray, List.set_cons_zero, List.set_cons_succ])
    refine take_at (i := 16) (D := 28) (v := undef) rfl rfl (by kernel_rfl) (by kernel_rfl) (by kernel_rfl) (fun _ _ _ h => h) (Or.inr ⟨by rfl, rfl⟩) (by assumption) ?_
    (try simp only [List.setIfInBounds_toArray, List.set_cons_zero, List.set_cons_succ])
    refine take_at (i := 17) (D := 29) (v := undef) rfl rfl (by kernel_rfl) (by kernel_rfl) (by kernel_rfl) (fun _ _ _ h => h) (Or.inr ⟨by rfl, rfl⟩) (by assumption) ?_
    (try simp only [List.setIfInBounds_toArray, List.set_cons_zero, List.set_cons_succ])
    refine take_at (i := 18) (D := 30) (v := undef) rfl rfl (by kernel_rfl) (by kernel_rfl) (by kernel_rfl) (fun _ _ _ h => h) (Or.inr ⟨by rfl, rfl⟩) (by assumption) ?_
    (try simp only [List.setIfInBounds_toArray, List.set_cons_zero, List.set_cons_succ])
    refine take_at (i := 19) (D := 31) (v := undef) rfl rfl (by kernel_rfl) (by kernel_rfl) (by kernel_rfl) (fun _ _ _ h => h) (Or.inr ⟨by rfl, rfl⟩) (by assumption) ?_
    (try simp only [List.setIfInBounds_toArray, List.set_cons_zero, List.set_cons_succ])
    refine take_at (i := 20) (D := 32) (v := undef) rfl rfl (by kernel_rfl) (by kernel_rfl) (by kernel_rfl) (fun _ _ _ h => h) (Or.inr ⟨by rfl, rfl⟩) (by assumption) ?_
    (try simp only [List.setIfInBounds_toArray, List.set_cons_zero, List.set_cons_succ])
    refine take_at (i := 21) (D := 33) (v := undef) rfl rfl (by kernel_rfl) (by kernel_rfl) (by kernel_rfl) (fun _ _ _ h => h) (Or.inr ⟨by rfl, rfl⟩) (by assumption) ?_
    (try simp only [List.setIfInBounds_toArray, List.set_cons_zero, List.set_cons_succ])
    refine take_at (i := 22) (D := 34) (v := .bool true) rfl rfl (by kernel_rfl) (by kernel_rfl) (by kernel_rfl) (fun _ _ _ h => h) (Or.inl ⟨by rfl, fun W hSw => by (try dsimp only at hSw); go_simp⟩) (by assumption) ?_
    (try simp only [List.setIfInBounds_toArray, List.set_cons_zero, List.set_cons_succ])
    refine take_at (i := 23) (D := 8) (v := .bool true) rfl rfl (by kernel_rfl) (by kernel_rfl) (by kernel_rfl) (fun _ _ _ h => h) (Or.inl ⟨by rfl, fun W hSw => by (try dsimp only at hSw); go_simp⟩) (by assumption) ?_
    (try simp only [List.setIfInBounds_toArray, List.set_cons_zero, List.set_cons_succ])
    refine wpAnyH_done (by kernel_rfl) ?_ _
    go_wp2
    go_ret
    exact ⟨rfl, bw⟩

set_option maxRecDepth 100000 in
set_option maxHeartbeats 4000000 in
theorem fnGrayColor_walk (w : World) (q : Q4) (hq : q.ok) (Z : Option Addr) (n cp : Nat) (zs : List Int) (hr : Rd w w.heap.size Z n zs) (x : Int) (hx : I64 x) (y : Int) (hy : I64 y) :
    Calls Try.prog 13 #[q.val, .slice Z n cp, .int .i64 x, .int .i64 y] w fun e w' => e = .returned (.bool true) ∧ Below w.heap.size w w' := by
  obtain ⟨a, b, c, d⟩ := q
  obtain ⟨ha, hb, hc, hd⟩ := hq
  show Calls Try.prog 13 #[.agg #[.int .i64 a, .int .i64 b, .int .i64 c, .int .i64 d], .slice Z n cp, .int .i64 x, .int .i64 y] w _
  have HR := Lib.hid hr
  clear hr
  have hrs := rect_same a b c d
  have hp0 := fun st v => pfld0 a b c d st v
  by_cases hf : Fine a b c d
  · obtain ⟨h3, h4, h5, h6, N, hN⟩ := fine_area hf
    have HF := Lib.hid hf
    have HN := Lib.hid hN
    clear hf hN
    go_enter Try.func13, Try.ntmps13
    go_wp2_with fail
    refine (toRect4 _ _ _ _ _).mono ?_
    rintro e w1 ⟨rfl, b1⟩
    have z0 : w.heap.size < w1.heap.size := Nat.lt_of_lt_of_le (by simp) b1.size
    have z1 : w.heap.size < w1.heap.size + 1 := by omega
    have z2 : ¬ w.heap.size = w1.heap.size := by omega
    have z3 : w1.heap.size < w1.heap.size + 1 := by omega
    obtain ⟨hc1, _⟩ := bcell b1
    have c0 : w1.cell? ⟨w.heap.size, 0, none⟩ = some (.int .i64 a) := by rw [hc1 w.heap.size 0 (by simp)]; simp
    have c1 : w1.cell? ⟨w.heap.size, 1, none⟩ = some (.int .i64 b) := by rw [hc1 w.heap.size 1 (by simp)]; simp
    have c2 : w1.cell? ⟨w.heap.size, 2, none⟩ = some (.int .i64 c) := by rw [hc1 w.heap.size 2 (by simp)]; simp
    have c3 : w1.cell? ⟨w.heap.size, 3, none⟩ = some (.int .i64 d) := by rw [hc1 w.heap.size 3 (by simp)]; simp
    have bw0 : Below w.heap.size w w1 := ((Below.refl _ _).alloc (Nat.le_refl _) _).trans (b1.mono (by simp))
    have bw : Below w.heap.size w (w1.alloc (.cells #[.int .i64 a, .int .i64 b, .int .i64 c, .int .i64 d] 26)) := bw0.alloc bw0.size _
    clear hc1 b1
    go_wp2_with fail
    go_region_held3 (fun w' => w'.cell? ⟨w.heap.size, 0, none⟩ = some (.int .i64 a) ∧ w'.cell? ⟨w.heap.size, 1, none⟩ = some (.int .i64 b) ∧ w'.cell? ⟨w.heap.size, 2, none⟩ = some (.int .i64 c) ∧ w'.cell? ⟨w.heap.size, 3, none⟩ = some (.int .i64 d) ∧ w'.cell? ⟨w1.heap.size, 0, none⟩ = some (.int .i64 a) ∧ w'.cell? ⟨w1.heap.size, 1, none⟩ = some (.int .i64 b) ∧ w'.cell? ⟨w1.heap.size, 2, none⟩ = some (.int .i64 c) ∧ w'.cell? ⟨w1.heap.size, 3, none⟩ = some (.int .i64 d)) (go_keep)
      (first
        | (go_at_call 22; refine (fine_yes _ _ _ _ HF.out _).mono ?_; rintro e wbf ⟨rfl, bf⟩; obtain ⟨hcbf, _⟩ := bcell bf; have zbf0 : w.heap.size < wbf.heap.size := Nat.lt_of_lt_of_le (by first | assumption | (simp; omega) | simp) bf.size; have zbf1 : w1.heap.size < wbf.heap.size := Nat.lt_of_lt_of_le (by first | assumption | (simp; omega) | simp) bf.size; have bw : Below w.heap.size w wbf := (by first | exact bw.trans (bf.mono bw.size) | exact bw.drew.trans (bf.mono bw.size)))
        | (go_at_call 37; refine (grayColor_any a b c d N h3 h4 h5 h6 HN.out n cp Z zs x y _ (by first | exact (HR.out.below bw).more bw.size | exact (HR.out.below bw.drew).more bw.size)).mono ?_; rintro e wbr ⟨rfl, br⟩; obtain ⟨hcbr, _⟩ := bcell br; have zbr0 : w.heap.size < wbr.heap.size := Nat.lt_of_lt_of_le (by first | assumption | (simp; omega) | simp) br.size; have zbr1 : w1.heap.size < wbr.heap.size := Nat.lt_of_lt_of_le (by first | assumption | (simp; omega) | simp) br.size; have bw : Below w.heap.size w wbr := (by first | exact bw.trans (br.mono bw.size) | exact bw.drew.trans (br.mono bw.size)))
        | (go_at_call 38; refine (sgrayColor_any a b c d N h3 h4 h5 h6 HN.out n cp Z zs x y _ (by first | exact (HR.out.below bw).more bw.size | exact (HR.out.below bw.drew).more bw.size)).mono ?_; rintro e wbs ⟨rfl, bs⟩; obtain ⟨hcbs, _⟩ := bcell bs; have zbs0 : w.heap.size < wbs.heap.size := Nat.lt_of_lt_of_le (by first | assumption | (simp; omega) | simp) bs.size; have zbs1 : w1.heap.size < wbs.heap.size := Nat.lt_of_lt_of_le (by first | assumption | (simp; omega) | simp) bs.size; have bw : Below w.heap.size w wbs := (by first | exact bw.trans (bs.mono bw.size) | exact bw.drew.trans (bs.mono bw.size)))
        | (go_at_call 24; refine (grayNew_any a b c d N h3 h4 h5 h6 HN.out _).mono ?_; rintro e wbg ⟨A1, cp1, rfl, r1, lo1, bg⟩; obtain ⟨hcbg, _⟩ := bcell bg; have zbg0 : w.heap.size < wbg.heap.size := Nat.lt_of_lt_of_le (by first | assumption | (simp; omega) | simp) bg.size; have zbg1 : w1.heap.size < wbg.heap.size := Nat.lt_of_lt_of_le (by first | assumption | (simp; omega) | simp) bg.size; have bw : Below w.heap.size w wbg := (by first | exact bw.trans (bg.mono bw.size) | exact bw.drew.trans (bg.mono bw.size))))
    go_wp2
    go_ret
    exact ⟨rfl, bw⟩
  · have HF := Lib.hid hf
    clear hf
    go_enter Try.func13, Try.ntmps13
    go_wp2_with fail
    refine (toRect4 _ _ _ _ _).mono ?_
    rintro e w1 ⟨rfl, b1⟩
    have z0 : w.heap.size < w1.heap.size := Nat.lt_of_lt_of_le (by simp) b1.size
    have z1 : w.heap.size < w1.heap.size + 1 := by omega
    have z2 : ¬ w.heap.size = w1.heap.size := by omega
    have z3 : w1.heap.size < w1.heap.size + 1 := by omega
    obtain ⟨hc1, _⟩ := bcell b1
    have c0 : w1.cell? ⟨w.heap.size, 0, none⟩ = some (.int .i64 a) := by rw [hc1 w.heap.size 0 (by simp)]; simp
    have c1 : w1.cell? ⟨w.heap.size, 1, none⟩ = some (.int .i64 b) := by rw [hc1 w.heap.size 1 (by simp)]; simp
    have c2 : w1.cell? ⟨w.heap.size, 2, none⟩ = some (.int .i64 c) := by rw [hc1 w.heap.size 2 (by simp)]; simp
    have c3 : w1.cell? ⟨w.heap.size, 3, none⟩ = some (.int .i64 d) := by rw [hc1 w.heap.size 3 (by simp)]; simp
    have bw0 : Below w.heap.size w w1 := ((Below.refl _ _).alloc (Nat.le_refl _) _).trans (b1.mono (by simp))
    have bw : Below w.heap.size w (w1.alloc (.cells #[.int .i64 a, .int .i64 b, .int .i64 c, .int .i64 d] 26)) := bw0.alloc bw0.size _
    clear hc1 b1
    go_wp2_with fail
    refine wp_region_held_drew (S := (fun w' => w'.cell? ⟨w.heap.size, 0, none⟩ = some (.int .i64 a) ∧ w'.cell? ⟨w.heap.size, 1, none⟩ = some (.int .i64 b) ∧ w'.cell? ⟨w.heap.size, 2, none⟩ = some (.int .i64 c) ∧ w'.cell? ⟨w.heap.size, 3, none⟩ = some (.int .i64 d) ∧ w'.cell? ⟨w1.heap.size, 0, none⟩ = some (.int .i64 a) ∧ w'.cell? ⟨w1.heap.size, 1, none⟩ = some (.int .i64 b) ∧ w'.cell? ⟨w1.heap.size, 2, none⟩ = some (.int .i64 c) ∧ w'.cell? ⟨w1.heap.size, 3, none⟩ = some (.int .i64 d))) (by kernel_rfl) (by go_keep) ?_
    intro hHeld
    refine take_at (i := 0) (D := 12) (v := .agg #[.int .i64 a, .int .i64 b, .int .i64 c, .int .i64 d]) rfl rfl (by kernel_rfl) (by kernel_rfl) (by kernel_rfl) (fun _ _ _ h => h) (Or.inl ⟨by rfl, fun W hSw => by (try dsimp only at hSw); go_simp⟩) (by assumption) ?_
    (try simp only [List.setIfInBounds_toArray, List.set_cons_zero, List.set_cons_succ])
    refine wpAnyH_ready (rs := [1]) (by kernel_rfl) (by simp) ?_
    refine AllReadyH.cons rfl (fun K hK => ?_) AllReadyH.nil
    go_simp
    refine (fine_no _ _ _ _ ha hb hc hd HF.out _).mono ?_
    rintro e wbf ⟨rfl, bf⟩; obtain ⟨hcbf, _⟩ := bcell bf; have zbf0 : w.heap.size < wbf.heap.size := Nat.lt_of_lt_of_le (by first | assumption | (simp; omega) | simp) bf.size; have zbf1 : w1.heap.size < wbf.heap.size := Nat.lt_of_lt_of_le (by first | assumption | (simp; omega) | simp) bf.size; have bw : Below w.heap.size w wbf := (by first | exact bw.trans (bf.mono bw.size) | exact bw.drew.trans (bf.mono bw.size))
    refine hK.out _ _ ?_ (fun hHeld => ?_)
    · (try dsimp only); go_keep
    clear hK K
    (try simp only [List.setIfInBounds_toArray, List.set_cons_zero, List.set_cons_succ])
    refine take_at (i := 2) (D := 14) (v := .bool true) rfl rfl (by kernel_rfl) (by kernel_rfl) (by kernel_rfl) (fun _ _ _ h => h) (Or.inl ⟨by rfl, fun W hSw => by (try dsimp only at hSw); go_simp⟩) (by assumption) ?_
    (try simp only [List.setIfInBounds_toArray, List.set_cons_zero, List.set_cons_succ])
    refine take_at (i := 3) (D := 15) (v := .bool true) rfl rfl (by kernel_rfl) (by kernel_rfl) (by kernel_rfl) (fun _ _ _ h => h) (Or.inl ⟨by rfl, fun W hSw => by (try dsimp only at hSw); go_simp⟩) (by assumption) ?_
    (try simp only [List.setIfInBounds_toArray, List.set_cons_zero, List.set_cons_succ])
    refine take_at (i := 4) (D := 16) (v := undef) rfl rfl (by kernel_rfl) (by kernel_rfl) (by kernel_rfl) (fun _ _ _ h => h) (Or.inr ⟨by rfl, rfl⟩) (by assumption) ?_
    (try simp only [List.setIfInBounds_toArray, List.set_cons_zero, List.set_cons_succ])
    refine take_at (i := 5) (D := 17) (v := undef) rfl rfl (by kernel_rfl) (by kernel_rfl) (by kernel_rfl) (fun _ _ _ h => h) (Or.inr ⟨by rfl, rfl⟩) (by assumption) ?_
    (try simp only [List.setIfInBounds_toArray, List.set_cons_zero, List.set_cons_succ])
    refine take_at (i := 6) (D := 18) (v := undef) rfl rfl (by kernel_rfl) (by kernel_rfl) (by kernel_rfl) (fun _ _ _ h => h) (Or.inr ⟨by rfl, rfl⟩) (by assumption) ?_
    (try simp only [List.setIfInBounds_toArray, List.set_cons_zero, List.set_cons_succ])
    refine take_at (i := 7) (D := 19) (v := undef) rfl rfl (by kernel_rfl) (by kernel_rfl) (by kernel_rfl) (fun _ _ _ h => h) (Or.inr ⟨by rfl, rfl⟩) (by assumption) ?_
    (try simp only [List.setIfInBounds_toArray, List.set_cons_zero, List.set_cons_succ])
    refine take_at (i := 8) (D := 20) (v := undef) rfl rfl (by kernel_rfl) (by kernel_rfl) (by kernel_rfl) (fun _ _ _ h => h) (Or.inr ⟨by rfl, rfl⟩) (by assumption) ?_
    (try simp only [List.setIfInBounds_toArray, List.set_cons_zero, List.set_cons_succ])
    refine take_at (i := 9) (D := 21) (v := undef) rfl rfl (by kernel_rfl) (by kernel_rfl) (by kernel_rfl) (fun _ _ _ h => h) (Or.inr ⟨by rfl, rfl⟩) (by assumption) ?_
    (try simp only [List.setIfInBounds_toArray, List.set_cons_zero, List.set_cons_succ])
    refine take_at (i := 10) (D := 22) (v := undef) rfl rfl (by kernel_rfl) (by kernel_rfl) (by kernel_rfl) (fun _ _ _ h => h) (Or.inr ⟨by rfl, rfl⟩) (by assumption) ?_
    (try simp only [List.setIfInBounds_toArray, List.set_cons_zero, List.set_cons_succ])
    refine take_at (i := 11) (D := 23) (v := undef) rfl rfl (by kernel_rfl) (by kernel_rfl) (by kernel_rfl) (fun _ _ _ h => h) (Or.inr ⟨by rfl, rfl⟩) (by assumption) ?_
    (try simp only [List.setIfInBounds_toArray, List.set_cons_zero, List.set_cons_succ])
    refine take_at (i := 12) (D := 24) (v := undef) rfl rfl (by kernel_rfl) (by kernel_rfl) (by kernel_rfl) (fun _ _ _ h => h) (Or.inr ⟨by rfl, rfl⟩) (by assumption) ?_
    (try simp only [List.setIfInBounds_toArray, List.set_cons_zero, List.set_cons_succ])
    refine take_at (i := 13) (D := 25) (v := undef) rfl rfl (by kernel_rfl) (by kernel_rfl) (by kernel_rfl) (fun _ _ _ h => h) (Or.inr ⟨by rfl, rfl⟩) (by assumption) ?_
    (try simp only [List.setIfInBounds_toArray, List.set_cons_zero, List.set_cons_succ])
    refine take_at (i := 14) (D := 26) (v := undef) rfl rfl (by kernel_rfl) (by kernel_rfl) (by kernel_rfl) (fun _ _ _ h => h) (Or.inr ⟨by rfl, rfl⟩) (by assumption) ?_
    (try simp only [List.setIfInBounds_toArray, List.set_cons_zero, List.set_cons_succ])
    refine take_at (i := 15) (D := 27) (v := undef) rfl rfl (by kernel_rfl) (by kernel_rfl) (by kernel_rfl) (fun _ _ _ h => h) (Or.inr ⟨by rfl, rfl⟩) (by assumption) ?_
    (try simp only [List.setIfInBounds_toArray, List.set_cons_zero, List.set_cons_succ])
    refine take_at (i := 16) (D := 28) (v := undef) rfl rfl (by kernel_rfl) (by kernel_rfl) (by kernel_rfl) (fun _ _ _ h => h) (Or.inr ⟨by rfl, rfl⟩) (by assumption) ?_
    (try simp only [List.setIfInBounds_toArray, List.set_cons_zero, List.set_cons_succ])
    refine take_at (i := 17) (D := 29) (v := undef) rfl rfl (by kernel_rfl) (by kernel_rfl) (by kernel_rfl) (fun _ _ _ h => h) (Or.inr ⟨by rfl, rfl⟩) (by assumption) ?_
    (try simp only [List.setIfInBounds_toArray, List.set_cons_zero, List.set_cons_succ])
    refine take_at (i := 18) (D := 30) (v := undef) rfl rfl (by kernel_rfl) (by kernel_rfl) (by kernel_rfl) (fun _ _ _ h => h) (Or.inr ⟨by rfl, rfl⟩) (by assumption) ?_
    (try simp only [List.setIfInBounds_toArray, List.set_cons_zero, List.set_cons_succ])
    refine take_at (i := 19) (D := 31) (v := undef) rfl rfl (by kernel_rfl) (by kernel_rfl) (by kernel_rfl) (fun _ _ _ h => h) (Or.inr ⟨by rfl, rfl⟩) (by assumption) ?_
    (try simp only [List.setIfInBounds_toArray, List.set_cons_zero, List.set_cons_succ])
    refine take_at (i := 20) (D := 32) (v := undef) rfl rfl (by kernel_rfl) (by kernel_rfl) (by kernel_rfl) (fun _ _ _ h => h) (Or.inr ⟨by rfl, rfl⟩) (by assumption) ?_
    (try simp only [List.setIfInBounds_toArray, List.set_cons_zero, List.set_cons_succ])
    refine take_at (i := 21) (D := 33) (v := undef) rfl rfl (by kernel_rfl) (by kernel_rfl) (by kernel_rfl) (fun _ _ _ h => h) (Or.inr ⟨by rfl, rfl⟩) (by assumption) ?_
    (try simp only [List.setIfInBounds_toArray, List.set_cons_zero, List.set_cons_succ])
    refine take_at (i := 22) (D := 34) (v := .bool true) rfl rfl (by kernel_rfl) (by kernel_rfl) (by kernel_rfl) (fun _ _ _ h => h) (Or.inl ⟨by rfl, fun W hSw => by (try dsimp only at hSw); go_simp⟩) (by assumption) ?_
    (try simp only [List.setIfInBounds_toArray, List.set_cons_zero, List.set_cons_succ])
    refine take_at (i := 23) (D := 8) (v := .bool true) rfl rfl (by kernel_rfl) (by kernel_rfl) (by kernel_rfl) (fun _ _ _ h => h) (Or.inl ⟨by rfl, fun W hSw => by (try dsimp only at hSw); go_simp⟩) (by assumption) ?_
    (try simp only [List.setIfInBounds_toArray, List.set_cons_zero, List.set_cons_succ])
    refine wpAnyH_done (by kernel_rfl) ?_ _
    go_wp2
    go_ret
    exact ⟨rfl, bw⟩

end Go.Proofs.Ytpijljokcoocpaa

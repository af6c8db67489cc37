/-
  The walk of the law FnNRGBAApart. No condition.
-/
import Derived.Test.YtkhofahobcegiaaNH1
import Derived.Test.YtkhofahobcegiaaNPL
namespace Go.Proofs.Ytkhofahobcegiaa
open Go.ChangeShapes Go.WideShapes Go.ChangeAt Go.RowKit
set_option linter.unusedVariables false
set_option linter.unusedSimpArgs false

set_option maxRecDepth 100000 in
set_option maxHeartbeats 3000000 in
theorem fnNRGBAApart_walk (w : World) (q : Q4) (hq : q.ok) (x : Int) (hx : I64 x) (y : Int) (hy : I64 y) (u : Int) (hu : I64 u) (v : Int) (hv : I64 v) :
    Calls Try.prog 8 #[q.val, .int .i64 x, .int .i64 y, .int .i64 u, .int .i64 v] w fun e w' => e = .returned (.bool true) ∧ Below w.heap.size w w' := by
  obtain ⟨a, b, c, d⟩ := q
  obtain ⟨ha, hb, hc, hd⟩ := hq
  show Calls Try.prog 8 #[.agg #[.int .i64 a, .int .i64 b, .int .i64 c, .int .i64 d], .int .i64 x, .int .i64 y, .int .i64 u, .int .i64 v] w _
  have hrs := rect_same a b c d
  have hrd := rect_diff a b c d
  have hp0 := fun st v => pfld0 a b c d st v
  have hp2 := fun st A n cp => pfld2 a b c d st A n cp
  by_cases hf : Fine a b c d
  case neg =>
    have HF := Lib.hid hf
    clear hf
    go_enter Try.func8, Try.ntmps8
    go_wp2_with fail
    refine (toRect4 a b c d _).mono ?_
    rintro e w1 ⟨rfl, bc⟩
    have bw := bst bc (bsa (Below.refl _ _))
    have k_r : w1.heap[w.heap.size]? = some (.cells #[.int .i64 a, .int .i64 b, .int .i64 c, .int .i64 d] 23 (0, 0)) := by have := bk bc (heap_alloc_new w _); simpa using this
    clear bc
    go_upto_region 2 with fail
    obtain ⟨Y1, g_q, eY, eg⟩ : ∃ Y g, Y = w1.alloc (.cells #[.int .i64 a, .int .i64 b, .int .i64 c, .int .i64 d] 25) ∧ g = w1.heap.size := ⟨_, _, rfl, rfl⟩
    rw [← eY, ← eg]
    have bc : Below w1.heap.size w1 Y1 := by rw [eY]; exact (Below.refl _ _).alloc (Nat.le_refl _) _
    have k_q : Y1.heap[g_q]? = some (.cells #[.int .i64 a, .int .i64 b, .int .i64 c, .int .i64 d] 25 (0, 0)) := by rw [eY, eg]; exact heap_alloc_new w1 _
    replace k_r := bk bc k_r
    replace bw := bst bc bw
    clear bc eY eg
    have q_r := q4c k_r
    have q_q := q4c k_q
    go_wp2_with fail
    refine (fine_no a b c d ha hb hc hd HF.out _).mono ?_
    rintro e Y2 ⟨rfl, bc⟩
    clear q_r q_q
    replace k_r := bk bc k_r
    replace k_q := bk bc k_q
    replace bw := bst bc bw
    clear bc
    go_wp2
    go_ret
    exact ⟨rfl, bw⟩
  obtain ⟨h3, h4, h5, h6, M, hM⟩ := fine_area hf
  obtain ⟨N, hN⟩ : ∃ N : Nat, 4 * (c - a) * (d - b) = N := ⟨4 * M, by rw [Int.mul_assoc, hM]; omega⟩
  have HF := Lib.hid hf
  have HN := Lib.hid hN
  have HM := Lib.hid hM
  clear hf hN hM
  by_cases hin : In a b c d x y
  case neg =>
    have HI := Lib.hid hin
    clear hin
    go_enter Try.func8, Try.ntmps8
    go_wp2_with fail
    refine (toRect4 a b c d _).mono ?_
    rintro e w1 ⟨rfl, bc⟩
    have bw := bst bc (bsa (Below.refl _ _))
    have k_r : w1.heap[w.heap.size]? = some (.cells #[.int .i64 a, .int .i64 b, .int .i64 c, .int .i64 d] 23 (0, 0)) := by have := bk bc (heap_alloc_new w _); simpa using this
    clear bc
    go_upto_region 2 with fail
    obtain ⟨Y1, g_q, eY, eg⟩ : ∃ Y g, Y = w1.alloc (.cells #[.int .i64 a, .int .i64 b, .int .i64 c, .int .i64 d] 25) ∧ g = w1.heap.size := ⟨_, _, rfl, rfl⟩
    rw [← eY, ← eg]
    have bc : Below w1.heap.size w1 Y1 := by rw [eY]; exact (Below.refl _ _).alloc (Nat.le_refl _) _
    have k_q : Y1.heap[g_q]? = some (.cells #[.int .i64 a, .int .i64 b, .int .i64 c, .int .i64 d] 25 (0, 0)) := by rw [eY, eg]; exact heap_alloc_new w1 _
    replace k_r := bk bc k_r
    replace bw := bst bc bw
    clear bc eY eg
    have q_r := q4c k_r
    have q_q := q4c k_q
    go_wp2_with fail
    refine (fine_yes a b c d HF.out _).mono ?_
    rintro e Y2 ⟨rfl, bc⟩
    clear q_r q_q
    replace k_r := bk bc k_r
    replace k_q := bk bc k_q
    replace bw := bst bc bw
    clear bc
    have q_r := q4c k_r
    have q_q := q4c k_q
    go_wp2_with fail
    refine (has_no a b c d x y HI.out _).mono ?_
    rintro e Y3 ⟨rfl, bc⟩
    clear q_r q_q
    replace k_r := bk bc k_r
    replace k_q := bk bc k_q
    replace bw := bst bc bw
    clear bc
    go_wp2
    go_ret
    exact ⟨rfl, bw⟩
  have HI := Lib.hid hin
  clear hin
  by_cases hin : In a b c d u v
  case neg =>
    have HJ := Lib.hid hin
    clear hin
    go_enter Try.func8, Try.ntmps8
    go_wp2_with fail
    refine (toRect4 a b c d _).mono ?_
    rintro e w1 ⟨rfl, bc⟩
    have bw := bst bc (bsa (Below.refl _ _))
    have k_r : w1.heap[w.heap.size]? = some (.cells #[.int .i64 a, .int .i64 b, .int .i64 c, .int .i64 d] 23 (0, 0)) := by have := bk bc (heap_alloc_new w _); simpa using this
    clear bc
    go_upto_region 2 with fail
    obtain ⟨Y1, g_q, eY, eg⟩ : ∃ Y g, Y = w1.alloc (.cells #[.int .i64 a, .int .i64 b, .int .i64 c, .int .i64 d] 25) ∧ g = w1.heap.size := ⟨_, _, rfl, rfl⟩
    rw [← eY, ← eg]
    have bc : Below w1.heap.size w1 Y1 := by rw [eY]; exact (Below.refl _ _).alloc (Nat.le_refl _) _
    have k_q : Y1.heap[g_q]? = some (.cells #[.int .i64 a, .int .i64 b, .int .i64 c, .int .i64 d] 25 (0, 0)) := by rw [eY, eg]; exact heap_alloc_new w1 _
    replace k_r := bk bc k_r
    replace bw := bst bc bw
    clear bc eY eg
    have q_r := q4c k_r
    have q_q := q4c k_q
    go_wp2_with fail
    refine (fine_yes a b c d HF.out _).mono ?_
    rintro e Y2 ⟨rfl, bc⟩
    clear q_r q_q
    replace k_r := bk bc k_r
    replace k_q := bk bc k_q
    replace bw := bst bc bw
    clear bc
    have q_r := q4c k_r
    have q_q := q4c k_q
    go_wp2_with fail
    refine (has_yes a b c d x y HI.out _).mono ?_
    rintro e Y3 ⟨rfl, bc⟩
    clear q_r q_q
    replace k_r := bk bc k_r
    replace k_q := bk bc k_q
    replace bw := bst bc bw
    clear bc
    have q_r := q4c k_r
    have q_q := q4c k_q
    go_wp2_with fail
    refine (has_no a b c d u v HJ.out _).mono ?_
    rintro e Y4 ⟨rfl, bc⟩
    clear q_r q_q
    replace k_r := bk bc k_r
    replace k_q := bk bc k_q
    replace bw := bst bc bw
    clear bc
    go_wp2
    go_ret
    exact ⟨rfl, bw⟩
  have HJ := Lib.hid hin
  clear hin
  by_cases hxy : x = u ∧ y = v
  case pos =>
    obtain ⟨rfl, rfl⟩ := hxy
    obtain ⟨o, ho, hoN⟩ := place_lt HN.out HI.out
    have HO := Lib.hid ho
    clear ho
    have kN := area_le h3 h4 h5 h6 HN.out
    have hp2 := fun st A n cp => pfld2 a b c d st A n cp
    have o1 : (o : Int) + 4 ≤ (N : Int) := by omega
    go_enter Try.func8, Try.ntmps8
    go_wp2_with fail
    refine (toRect4 a b c d _).mono ?_
    rintro e w1 ⟨rfl, bc⟩
    have bw := bst bc (bsa (Below.refl _ _))
    have k_r : w1.heap[w.heap.size]? = some (.cells #[.int .i64 a, .int .i64 b, .int .i64 c, .int .i64 d] 23 (0, 0)) := by have := bk bc (heap_alloc_new w _); simpa using this
    clear bc
    go_upto_region 2 with fail
    obtain ⟨Y1, g_q, eY, eg⟩ : ∃ Y g, Y = w1.alloc (.cells #[.int .i64 a, .int .i64 b, .int .i64 c, .int .i64 d] 25) ∧ g = w1.heap.size := ⟨_, _, rfl, rfl⟩
    rw [← eY, ← eg]
    have bc : Below w1.heap.size w1 Y1 := by rw [eY]; exact (Below.refl _ _).alloc (Nat.le_refl _) _
    have k_q : Y1.heap[g_q]? = some (.cells #[.int .i64 a, .int .i64 b, .int .i64 c, .int .i64 d] 25 (0, 0)) := by rw [eY, eg]; exact heap_alloc_new w1 _
    replace k_r := bk bc k_r
    replace bw := bst bc bw
    clear bc eY eg
    have q_r := q4c k_r
    have q_q := q4c k_q
    go_wp2_with fail
    refine (fine_yes a b c d HF.out _).mono ?_
    rintro e Y2 ⟨rfl, bc⟩
    clear q_r q_q
    replace k_r := bk bc k_r
    replace k_q := bk bc k_q
    replace bw := bst bc bw
    clear bc
    have q_r := q4c k_r
    have q_q := q4c k_q
    go_wp2_with fail
    refine (has_yes a b c d x y HI.out _).mono ?_
    rintro e Y3 ⟨rfl, bc⟩
    clear q_r q_q
    replace k_r := bk bc k_r
    replace k_q := bk bc k_q
    replace bw := bst bc bw
    clear bc
    have q_r := q4c k_r
    have q_q := q4c k_q
    go_wp2_with fail
    refine (has_yes a b c d x y HJ.out _).mono ?_
    rintro e Y4 ⟨rfl, bc⟩
    clear q_r q_q
    replace k_r := bk bc k_r
    replace k_q := bk bc k_q
    replace bw := bst bc bw
    clear bc
    go_upto_region 4 with fail
    refine wp_region_held_drew (S := fun w' => w'.cell? ⟨g_q, 0, none⟩ = some (.int .i64 a) ∧ w'.cell? ⟨g_q, 1, none⟩ = some (.int .i64 b) ∧ w'.cell? ⟨g_q, 2, none⟩ = some (.int .i64 c) ∧ w'.cell? ⟨g_q, 3, none⟩ = some (.int .i64 d)) (by kernel_rfl) ⟨(q4c k_q).1.1, (q4c k_q).1.2.1, (q4c k_q).1.2.2.1, (q4c k_q).1.2.2.2⟩ ?_
    intro hHeld
    obtain ⟨X5, eX, bc⟩ : ∃ X, X = Y4.drew ∧ Below Y4.heap.size Y4 X := ⟨_, rfl, (Below.refl _ _).drew⟩
    rw [← eX] at hHeld ⊢
    replace k_r := bk bc k_r
    replace k_q := bk bc k_q
    replace bw := bst bc bw
    clear eX bc
    refine takx (i := 0) (D := 33) (v := .agg #[.int .i64 a, .int .i64 b, .int .i64 c, .int .i64 d]) rfl rfl (by kernel_rfl) (by kernel_rfl) (by kernel_rfl) (fun _ _ _ h => h) (Or.inl ⟨by rfl, fun W hSw => by (try dsimp only at hSw); go_simp⟩) (by assumption) ?_
    (try simp only [List.setIfInBounds_toArray, List.set_cons_zero, List.set_cons_succ])
    refine takx (i := 1) (D := 34) (v := .int .i64 x) rfl rfl (by kernel_rfl) (by kernel_rfl) (by kernel_rfl) (fun _ _ _ h => h) (Or.inl ⟨by rfl, fun W hSw => by (try dsimp only at hSw); go_simp⟩) (by assumption) ?_
    (try simp only [List.setIfInBounds_toArray, List.set_cons_zero, List.set_cons_succ])
    refine takx (i := 2) (D := 35) (v := .int .i64 y) rfl rfl (by kernel_rfl) (by kernel_rfl) (by kernel_rfl) (fun _ _ _ h => h) (Or.inl ⟨by rfl, fun W hSw => by (try dsimp only at hSw); go_simp⟩) (by assumption) ?_
    (try simp only [List.setIfInBounds_toArray, List.set_cons_zero, List.set_cons_succ])
    refine takx (i := 4) (D := 37) (v := .agg #[.int .i64 a, .int .i64 b, .int .i64 c, .int .i64 d]) rfl rfl (by kernel_rfl) (by kernel_rfl) (by kernel_rfl) (fun _ _ _ h => h) (Or.inl ⟨by rfl, fun W hSw => by (try dsimp only at hSw); go_simp⟩) (by assumption) ?_
    (try simp only [List.setIfInBounds_toArray, List.set_cons_zero, List.set_cons_succ])
    refine takx (i := 5) (D := 38) (v := .int .i64 x) rfl rfl (by kernel_rfl) (by kernel_rfl) (by kernel_rfl) (fun _ _ _ h => h) (Or.inl ⟨by rfl, fun W hSw => by (try dsimp only at hSw); go_simp⟩) (by assumption) ?_
    (try simp only [List.setIfInBounds_toArray, List.set_cons_zero, List.set_cons_succ])
    refine takx (i := 6) (D := 39) (v := .int .i64 y) rfl rfl (by kernel_rfl) (by kernel_rfl) (by kernel_rfl) (fun _ _ _ h => h) (Or.inl ⟨by rfl, fun W hSw => by (try dsimp only at hSw); go_simp⟩) (by assumption) ?_
    (try simp only [List.setIfInBounds_toArray, List.set_cons_zero, List.set_cons_succ])
    refine wpAnyH_ready (rs := [3]) (by kernel_rfl) (by simp) ?_
    refine (AllReadyH.cons rfl (fun K hK => ?_) AllReadyH.nil)
    go_simp
    refine (nrgbaOffset_any a b c d N h3 h4 h5 h6 HN.out x y o HI.out HO.out _).mono ?_
    rintro e X6 ⟨rfl, bc⟩
    refine hK.out _ _ ⟨ck bc hHeld.1, ck bc hHeld.2.1, ck bc hHeld.2.2.1, ck bc hHeld.2.2.2⟩ (fun hHeld => ?_)
    clear hK K
    (try simp only [List.setIfInBounds_toArray, List.set_cons_zero, List.set_cons_succ])
    replace k_r := bk bc k_r
    replace k_q := bk bc k_q
    replace bw := bst bc bw
    clear bc
    refine wpAnyH_ready (rs := [7]) (by kernel_rfl) (by simp) ?_
    refine (AllReadyH.cons rfl (fun K hK => ?_) AllReadyH.nil)
    go_simp
    refine (nrgbaOffset_any a b c d N h3 h4 h5 h6 HN.out x y o HI.out HO.out _).mono ?_
    rintro e X7 ⟨rfl, bc⟩
    refine hK.out _ _ ⟨ck bc hHeld.1, ck bc hHeld.2.1, ck bc hHeld.2.2.1, ck bc hHeld.2.2.2⟩ (fun hHeld => ?_)
    clear hK K
    (try simp only [List.setIfInBounds_toArray, List.set_cons_zero, List.set_cons_succ])
    replace k_r := bk bc k_r
    replace k_q := bk bc k_q
    replace bw := bst bc bw
    clear bc
    refine takx (i := 8) (D := 12) (v := .int .i64 o) rfl rfl (by kernel_rfl) (by kernel_rfl) (by kernel_rfl) (fun _ _ _ h => h) (Or.inl ⟨by rfl, fun W hSw => by (try dsimp only at hSw); go_simp⟩) (by assumption) ?_
    (try simp only [List.setIfInBounds_toArray, List.set_cons_zero, List.set_cons_succ])
    refine takx (i := 9) (D := 13) (v := .int .i64 o) rfl rfl (by kernel_rfl) (by kernel_rfl) (by kernel_rfl) (fun _ _ _ h => h) (Or.inl ⟨by rfl, fun W hSw => by (try dsimp only at hSw); go_simp⟩) (by assumption) ?_
    (try simp only [List.setIfInBounds_toArray, List.set_cons_zero, List.set_cons_succ])
    refine wpAnyH_done (by kernel_rfl) ?_ _
    clear hHeld
    have q_r := q4c k_r
    have q_q := q4c k_q
    go_wp2_with fail
    refine (nrgbaNew_any a b c d N h3 h4 h5 h6 HN.out _).mono ?_
    rintro e Y9 ⟨A1, cp1, rfl, r1, lo1, bc⟩
    clear q_r q_q
    replace k_r := bk bc k_r
    replace k_q := bk bc k_q
    replace bw := bst bc bw
    clear bc
    go_wp2
    go_ret
    exact ⟨rfl, bw⟩
  obtain ⟨o, ho, hoN⟩ := place_lt HN.out HI.out
  have HO := Lib.hid ho
  clear ho
  obtain ⟨p, hp, hpN⟩ := place_lt HN.out HJ.out
  have HP := Lib.hid hp
  clear hp
  have kN := area_le h3 h4 h5 h6 HN.out
  have hne := place_ne HI.out HJ.out hxy HO.out HP.out
  by_cases hx1 : x = u
  case pos =>
    have hy1 : ¬ y = v := fun h => hxy ⟨hx1, h⟩
    have t1 : (x == u) = true := by simpa using hx1
    have t2 : (y == v) = false := by simpa using hy1
    clear hxy hx1
    rcases hne with hlt | hlt
    · have o1 : (o : Int) + 4 ≤ (p : Int) := by omega
      go_enter Try.func8, Try.ntmps8
      go_wp2_with fail
      refine (toRect4 a b c d _).mono ?_
      rintro e w1 ⟨rfl, bc⟩
      have bw := bst bc (bsa (Below.refl _ _))
      have k_r : w1.heap[w.heap.size]? = some (.cells #[.int .i64 a, .int .i64 b, .int .i64 c, .int .i64 d] 23 (0, 0)) := by have := bk bc (heap_alloc_new w _); simpa using this
      clear bc
      go_upto_region 2 with fail
      obtain ⟨Y1, g_q, eY, eg⟩ : ∃ Y g, Y = w1.alloc (.cells #[.int .i64 a, .int .i64 b, .int .i64 c, .int .i64 d] 25) ∧ g = w1.heap.size := ⟨_, _, rfl, rfl⟩
      rw [← eY, ← eg]
      have bc : Below w1.heap.size w1 Y1 := by rw [eY]; exact (Below.refl _ _).alloc (Nat.le_refl _) _
      have k_q : Y1.heap[g_q]? = some (.cells #[.int .i64 a, .int .i64 b, .int .i64 c, .int .i64 d] 25 (0, 0)) := by rw [eY, eg]; exact heap_alloc_new w1 _
      replace k_r := bk bc k_r
      replace bw := bst bc bw
      clear bc eY eg
      have q_r := q4c k_r
      have q_q := q4c k_q
      go_wp2_with fail
      refine (fine_yes a b c d HF.out _).mono ?_
      rintro e Y2 ⟨rfl, bc⟩
      clear q_r q_q
      replace k_r := bk bc k_r
      replace k_q := bk bc k_q
      replace bw := bst bc bw
      clear bc
      have q_r := q4c k_r
      have q_q := q4c k_q
      go_wp2_with fail
      refine (has_yes a b c d x y HI.out _).mono ?_
      rintro e Y3 ⟨rfl, bc⟩
      clear q_r q_q
      replace k_r := bk bc k_r
      replace k_q := bk bc k_q
      replace bw := bst bc bw
      clear bc
      have q_r := q4c k_r
      have q_q := q4c k_q
      go_wp2_with fail
      refine (has_yes a b c d u v HJ.out _).mono ?_
      rintro e Y4 ⟨rfl, bc⟩
      clear q_r q_q
      replace k_r := bk bc k_r
      replace k_q := bk bc k_q
      replace bw := bst bc bw
      clear bc
      go_upto_region 4 with fail
      refine wp_region_held_drew (S := fun w' => w'.cell? ⟨g_q, 0, none⟩ = some (.int .i64 a) ∧ w'.cell? ⟨g_q, 1, none⟩ = some (.int .i64 b) ∧ w'.cell? ⟨g_q, 2, none⟩ = some (.int .i64 c) ∧ w'.cell? ⟨g_q, 3, none⟩ = some (.int .i64 d)) (by kernel_rfl) ⟨(q4c k_q).1.1, (q4c k_q).1.2.1, (q4c k_q).1.2.2.1, (q4c k_q).1.2.2.2⟩ ?_
      intro hHeld
      obtain ⟨X5, eX, bc⟩ : ∃ X, X = Y4.drew ∧ Below Y4.heap.size Y4 X := ⟨_, rfl, (Below.refl _ _).drew⟩
      rw [← eX] at hHeld ⊢
      replace k_r := bk bc k_r
      replace k_q := bk bc k_q
      replace bw := bst bc bw
      clear eX bc
      refine takx (i := 0) (D := 33) (v := .agg #[.int .i64 a, .int .i64 b, .int .i64 c, .int .i64 d]) rfl rfl (by kernel_rfl) (by kernel_rfl) (by kernel_rfl) (fun _ _ _ h => h) (Or.inl ⟨by rfl, fun W hSw => by (try dsimp only at hSw); go_simp⟩) (by assumption) ?_
      (try simp only [List.setIfInBounds_toArray, List.set_cons_zero, List.set_cons_succ])
      refine takx (i := 1) (D := 34) (v := .int .i64 x) rfl rfl (by kernel_rfl) (by kernel_rfl) (by kernel_rfl) (fun _ _ _ h => h) (Or.inl ⟨by rfl, fun W hSw => by (try dsimp only at hSw); go_simp⟩) (by assumption) ?_
      (try simp only [List.setIfInBounds_toArray, List.set_cons_zero, List.set_cons_succ])
      refine takx (i := 2) (D := 35) (v := .int .i64 y) rfl rfl (by kernel_rfl) (by kernel_rfl) (by kernel_rfl) (fun _ _ _ h => h) (Or.inl ⟨by rfl, fun W hSw => by (try dsimp only at hSw); go_simp⟩) (by assumption) ?_
      (try simp only [List.setIfInBounds_toArray, List.set_cons_zero, List.set_cons_succ])
      refine takx (i := 4) (D := 37) (v := .agg #[.int .i64 a, .int .i64 b, .int .i64 c, .int .i64 d]) rfl rfl (by kernel_rfl) (by kernel_rfl) (by kernel_rfl) (fun _ _ _ h => h) (Or.inl ⟨by rfl, fun W hSw => by (try dsimp only at hSw); go_simp⟩) (by assumption) ?_
      (try simp only [List.setIfInBounds_toArray, List.set_cons_zero, List.set_cons_succ])
      refine takx (i := 5) (D := 38) (v := .int .i64 u) rfl rfl (by kernel_rfl) (by kernel_rfl) (by kernel_rfl) (fun _ _ _ h => h) (Or.inl ⟨by rfl, fun W hSw => by (try dsimp only at hSw); go_simp⟩) (by assumption) ?_
      (try simp only [List.setIfInBounds_toArray, List.set_cons_zero, List.set_cons_succ])
      refine takx (i := 6) (D := 39) (v := .int .i64 v) rfl rfl (by kernel_rfl) (by kernel_rfl) (by kernel_rfl) (fun _ _ _ h => h) (Or.inl ⟨by rfl, fun W hSw => by (try dsimp only at hSw); go_simp⟩) (by assumption) ?_
      (try simp only [List.setIfInBounds_toArray, List.set_cons_zero, List.set_cons_succ])
      refine wpAnyH_ready (rs := [3]) (by kernel_rfl) (by simp) ?_
      refine (AllReadyH.cons rfl (fun K hK => ?_) AllReadyH.nil)
      go_simp
      refine (nrgbaOffset_any a b c d N h3 h4 h5 h6 HN.out x y o HI.out HO.out _).mono ?_
      rintro e X6 ⟨rfl, bc⟩
      refine hK.out _ _ ⟨ck bc hHeld.1, ck bc hHeld.2.1, ck bc hHeld.2.2.1, ck bc hHeld.2.2.2⟩ (fun hHeld => ?_)
      clear hK K
      (try simp only [List.setIfInBounds_toArray, List.set_cons_zero, List.set_cons_succ])
      replace k_r := bk bc k_r
      replace k_q := bk bc k_q
      replace bw := bst bc bw
      clear bc
      refine wpAnyH_ready (rs := [7]) (by kernel_rfl) (by simp) ?_
      refine (AllReadyH.cons rfl (fun K hK => ?_) AllReadyH.nil)
      go_simp
      refine (nrgbaOffset_any a b c d N h3 h4 h5 h6 HN.out u v p HJ.out HP.out _).mono ?_
      rintro e X7 ⟨rfl, bc⟩
      refine hK.out _ _ ⟨ck bc hHeld.1, ck bc hHeld.2.1, ck bc hHeld.2.2.1, ck bc hHeld.2.2.2⟩ (fun hHeld => ?_)
      clear hK K
      (try simp only [List.setIfInBounds_toArray, List.set_cons_zero, List.set_cons_succ])
      replace k_r := bk bc k_r
      replace k_q := bk bc k_q
      replace bw := bst bc bw
      clear bc
      refine takx (i := 8) (D := 12) (v := .int .i64 o) rfl rfl (by kernel_rfl) (by kernel_rfl) (by kernel_rfl) (fun _ _ _ h => h) (Or.inl ⟨by rfl, fun W hSw => by (try dsimp only at hSw); go_simp⟩) (by assumption) ?_
      (try simp only [List.setIfInBounds_toArray, List.set_cons_zero, List.set_cons_succ])
      refine takx (i := 9) (D := 13) (v := .int .i64 p) rfl rfl (by kernel_rfl) (by kernel_rfl) (by kernel_rfl) (fun _ _ _ h => h) (Or.inl ⟨by rfl, fun W hSw => by (try dsimp only at hSw); go_simp⟩) (by assumption) ?_
      (try simp only [List.setIfInBounds_toArray, List.set_cons_zero, List.set_cons_succ])
      refine wpAnyH_done (by kernel_rfl) ?_ _
      clear hHeld
      go_wp2
      go_ret
      exact ⟨rfl, bw⟩
    · have o1 : ¬ (o : Int) + 4 ≤ (p : Int) := by omega
      have o2 : (p : Int) + 4 ≤ (o : Int) := by omega
      go_enter Try.func8, Try.ntmps8
      go_wp2_with fail
      refine (toRect4 a b c d _).mono ?_
      rintro e w1 ⟨rfl, bc⟩
      have bw := bst bc (bsa (Below.refl _ _))
      have k_r : w1.heap[w.heap.size]? = some (.cells #[.int .i64 a, .int .i64 b, .int .i64 c, .int .i64 d] 23 (0, 0)) := by have := bk bc (heap_alloc_new w _); simpa using this
      clear bc
      go_upto_region 2 with fail
      obtain ⟨Y1, g_q, eY, eg⟩ : ∃ Y g, Y = w1.alloc (.cells #[.int .i64 a, .int .i64 b, .int .i64 c, .int .i64 d] 25) ∧ g = w1.heap.size := ⟨_, _, rfl, rfl⟩
      rw [← eY, ← eg]
      have bc : Below w1.heap.size w1 Y1 := by rw [eY]; exact (Below.refl _ _).alloc (Nat.le_refl _) _
      have k_q : Y1.heap[g_q]? = some (.cells #[.int .i64 a, .int .i64 b, .int .i64 c, .int .i64 d] 25 (0, 0)) := by rw [eY, eg]; exact heap_alloc_new w1 _
      replace k_r := bk bc k_r
      replace bw := bst bc bw
      clear bc eY eg
      have q_r := q4c k_r
      have q_q := q4c k_q
      go_wp2_with fail
      refine (fine_yes a b c d HF.out _).mono ?_
      rintro e Y2 ⟨rfl, bc⟩
      clear q_r q_q
      replace k_r := bk bc k_r
      replace k_q := bk bc k_q
      replace bw := bst bc bw
      clear bc
      have q_r := q4c k_r
      have q_q := q4c k_q
      go_wp2_with fail
      refine (has_yes a b c d x y HI.out _).mono ?_
      rintro e Y3 ⟨rfl, bc⟩
      clear q_r q_q
      replace k_r := bk bc k_r
      replace k_q := bk bc k_q
      replace bw := bst bc bw
      clear bc
      have q_r := q4c k_r
      have q_q := q4c k_q
      go_wp2_with fail
      refine (has_yes a b c d u v HJ.out _).mono ?_
      rintro e Y4 ⟨rfl, bc⟩
      clear q_r q_q
      replace k_r := bk bc k_r
      replace k_q := bk bc k_q
      replace bw := bst bc bw
      clear bc
      go_upto_region 4 with fail
      refine wp_region_held_drew (S := fun w' => w'.cell? ⟨g_q, 0, none⟩ = some (.int .i64 a) ∧ w'.cell? ⟨g_q, 1, none⟩ = some (.int .i64 b) ∧ w'.cell? ⟨g_q, 2, none⟩ = some (.int .i64 c) ∧ w'.cell? ⟨g_q, 3, none⟩ = some (.int .i64 d)) (by kernel_rfl) ⟨(q4c k_q).1.1, (q4c k_q).1.2.1, (q4c k_q).1.2.2.1, (q4c k_q).1.2.2.2⟩ ?_
      intro hHeld
      obtain ⟨X5, eX, bc⟩ : ∃ X, X = Y4.drew ∧ Below Y4.heap.size Y4 X := ⟨_, rfl, (Below.refl _ _).drew⟩
      rw [← eX] at hHeld ⊢
      replace k_r := bk bc k_r
      replace k_q := bk bc k_q
      replace bw := bst bc bw
      clear eX bc
      refine takx (i := 0) (D := 33) (v := .agg #[.int .i64 a, .int .i64 b, .int .i64 c, .int .i64 d]) rfl rfl (by kernel_rfl) (by kernel_rfl) (by kernel_rfl) (fun _ _ _ h => h) (Or.inl ⟨by rfl, fun W hSw => by (try dsimp only at hSw); go_simp⟩) (by assumption) ?_
      (try simp only [List.setIfInBounds_toArray, List.set_cons_zero, List.set_cons_succ])
      refine takx (i := 1) (D := 34) (v := .int .i64 x) rfl rfl (by kernel_rfl) (by kernel_rfl) (by kernel_rfl) (fun _ _ _ h => h) (Or.inl ⟨by rfl, fun W hSw => by (try dsimp only at hSw); go_simp⟩) (by assumption) ?_
      (try simp only [List.setIfInBounds_toArray, List.set_cons_zero, List.set_cons_succ])
      refine takx (i := 2) (D := 35) (v := .int .i64 y) rfl rfl (by kernel_rfl) (by kernel_rfl) (by kernel_rfl) (fun _ _ _ h => h) (Or.inl ⟨by rfl, fun W hSw => by (try dsimp only at hSw); go_simp⟩) (by assumption) ?_
      (try simp only [List.setIfInBounds_toArray, List.set_cons_zero, List.set_cons_succ])
      refine takx (i := 4) (D := 37) (v := .agg #[.int .i64 a, .int .i64 b, .int .i64 c, .int .i64 d]) rfl rfl (by kernel_rfl) (by kernel_rfl) (by kernel_rfl) (fun _ _ _ h => h) (Or.inl ⟨by rfl, fun W hSw => by (try dsimp only at hSw); go_simp⟩) (by assumption) ?_
      (try simp only [List.setIfInBounds_toArray, List.set_cons_zero, List.set_cons_succ])
      refine takx (i := 5) (D := 38) (v := .int .i64 u) rfl rfl (by kernel_rfl) (by kernel_rfl) (by kernel_rfl) (fun _ _ _ h => h) (Or.inl ⟨by rfl, fun W hSw => by (try dsimp only at hSw); go_simp⟩) (by assumption) ?_
      (try simp only [List.setIfInBounds_toArray, List.set_cons_zero, List.set_cons_succ])
      refine takx (i := 6) (D := 39) (v := .int .i64 v) rfl rfl (by kernel_rfl) (by kernel_rfl) (by kernel_rfl) (fun _ _ _ h => h) (Or.inl ⟨by rfl, fun W hSw => by (try dsimp only at hSw); go_simp⟩) (by assumption) ?_
      (try simp only [List.setIfInBounds_toArray, List.set_cons_zero, List.set_cons_succ])
      refine wpAnyH_ready (rs := [3]) (by kernel_rfl) (by simp) ?_
      refine (AllReadyH.cons rfl (fun K hK => ?_) AllReadyH.nil)
      go_simp
      refine (nrgbaOffset_any a b c d N h3 h4 h5 h6 HN.out x y o HI.out HO.out _).mono ?_
      rintro e X6 ⟨rfl, bc⟩
      refine hK.out _ _ ⟨ck bc hHeld.1, ck bc hHeld.2.1, ck bc hHeld.2.2.1, ck bc hHeld.2.2.2⟩ (fun hHeld => ?_)
      clear hK K
      (try simp only [List.setIfInBounds_toArray, List.set_cons_zero, List.set_cons_succ])
      replace k_r := bk bc k_r
      replace k_q := bk bc k_q
      replace bw := bst bc bw
      clear bc
      refine wpAnyH_ready (rs := [7]) (by kernel_rfl) (by simp) ?_
      refine (AllReadyH.cons rfl (fun K hK => ?_) AllReadyH.nil)
      go_simp
      refine (nrgbaOffset_any a b c d N h3 h4 h5 h6 HN.out u v p HJ.out HP.out _).mono ?_
      rintro e X7 ⟨rfl, bc⟩
      refine hK.out _ _ ⟨ck bc hHeld.1, ck bc hHeld.2.1, ck bc hHeld.2.2.1, ck bc hHeld.2.2.2⟩ (fun hHeld => ?_)
      clear hK K
      (try simp only [List.setIfInBounds_toArray, List.set_cons_zero, List.set_cons_succ])
      replace k_r := bk bc k_r
      replace k_q := bk bc k_q
      replace bw := bst bc bw
      clear bc
      refine takx (i := 8) (D := 12) (v := .int .i64 o) rfl rfl (by kernel_rfl) (by kernel_rfl) (by kernel_rfl) (fun _ _ _ h => h) (Or.inl ⟨by rfl, fun W hSw => by (try dsimp only at hSw); go_simp⟩) (by assumption) ?_
      (try simp only [List.setIfInBounds_toArray, List.set_cons_zero, List.set_cons_succ])
      refine takx (i := 9) (D := 13) (v := .int .i64 p) rfl rfl (by kernel_rfl) (by kernel_rfl) (by kernel_rfl) (fun _ _ _ h => h) (Or.inl ⟨by rfl, fun W hSw => by (try dsimp only at hSw); go_simp⟩) (by assumption) ?_
      (try simp only [List.setIfInBounds_toArray, List.set_cons_zero, List.set_cons_succ])
      refine wpAnyH_done (by kernel_rfl) ?_ _
      clear hHeld
      go_wp2
      go_ret
      exact ⟨rfl, bw⟩
  have t1 : (x == u) = false := by simpa using hx1
  clear hxy hx1
  rcases hne with hlt | hlt
  · have o1 : (o : Int) + 4 ≤ (p : Int) := by omega
    go_enter Try.func8, Try.ntmps8
    go_wp2_with fail
    refine (toRect4 a b c d _).mono ?_
    rintro e w1 ⟨rfl, bc⟩
    have bw := bst bc (bsa (Below.refl _ _))
    have k_r : w1.heap[w.heap.size]? = some (.cells #[.int .i64 a, .int .i64 b, .int .i64 c, .int .i64 d] 23 (0, 0)) := by have := bk bc (heap_alloc_new w _); simpa using this
    clear bc
    go_upto_region 2 with fail
    obtain ⟨Y1, g_q, eY, eg⟩ : ∃ Y g, Y = w1.alloc (.cells #[.int .i64 a, .int .i64 b, .int .i64 c, .int .i64 d] 25) ∧ g = w1.heap.size := ⟨_, _, rfl, rfl⟩
    rw [← eY, ← eg]
    have bc : Below w1.heap.size w1 Y1 := by rw [eY]; exact (Below.refl _ _).alloc (Nat.le_refl _) _
    have k_q : Y1.heap[g_q]? = some (.cells #[.int .i64 a, .int .i64 b, .int .i64 c, .int .i64 d] 25 (0, 0)) := by rw [eY, eg]; exact heap_alloc_new w1 _
    replace k_r := bk bc k_r
    replace bw := bst bc bw
    clear bc eY eg
    have q_r := q4c k_r
    have q_q := q4c k_q
    go_wp2_with fail
    refine (fine_yes a b c d HF.out _).mono ?_
    rintro e Y2 ⟨rfl, bc⟩
    clear q_r q_q
    replace k_r := bk bc k_r
    replace k_q := bk bc k_q
    replace bw := bst bc bw
    clear bc
    have q_r := q4c k_r
    have q_q := q4c k_q
    go_wp2_with fail
    refine (has_yes a b c d x y HI.out _).mono ?_
    rintro e Y3 ⟨rfl, bc⟩
    clear q_r q_q
    replace k_r := bk bc k_r
    replace k_q := bk bc k_q
    replace bw := bst bc bw
    clear bc
    have q_r := q4c k_r
    have q_q := q4c k_q
    go_wp2_with fail
    refine (has_yes a b c d u v HJ.out _).mono ?_
    rintro e Y4 ⟨rfl, bc⟩
    clear q_r q_q
    replace k_r := bk bc k_r
    replace k_q := bk bc k_q
    replace bw := bst bc bw
    clear bc
    go_upto_region 4 with fail
    refine wp_region_held_drew (S := fun w' => w'.cell? ⟨g_q, 0, none⟩ = some (.int .i64 a) ∧ w'.cell? ⟨g_q, 1, none⟩ = some (.int .i64 b) ∧ w'.cell? ⟨g_q, 2, none⟩ = some (.int .i64 c) ∧ w'.cell? ⟨g_q, 3, none⟩ = some (.int .i64 d)) (by kernel_rfl) ⟨(q4c k_q).1.1, (q4c k_q).1.2.1, (q4c k_q).1.2.2.1, (q4c k_q).1.2.2.2⟩ ?_
    intro hHeld
    obtain ⟨X5, eX, bc⟩ : ∃ X, X = Y4.drew ∧ Below Y4.heap.size Y4 X := ⟨_, rfl, (Below.refl _ _).drew⟩
    rw [← eX] at hHeld ⊢
    replace k_r := bk bc k_r
    replace k_q := bk bc k_q
    replace bw := bst bc bw
    clear eX bc
    refine takx (i := 0) (D := 33) (v := .agg #[.int .i64 a, .int .i64 b, .int .i64 c, .int .i64 d]) rfl rfl (by kernel_rfl) (by kernel_rfl) (by kernel_rfl) (fun _ _ _ h => h) (Or.inl ⟨by rfl, fun W hSw => by (try dsimp only at hSw); go_simp⟩) (by assumption) ?_
    (try simp only [List.setIfInBounds_toArray, List.set_cons_zero, List.set_cons_succ])
    refine takx (i := 1) (D := 34) (v := .int .i64 x) rfl rfl (by kernel_rfl) (by kernel_rfl) (by kernel_rfl) (fun _ _ _ h => h) (Or.inl ⟨by rfl, fun W hSw => by (try dsimp only at hSw); go_simp⟩) (by assumption) ?_
    (try simp only [List.setIfInBounds_toArray, List.set_cons_zero, List.set_cons_succ])
    refine takx (i := 2) (D := 35) (v := .int .i64 y) rfl rfl (by kernel_rfl) (by kernel_rfl) (by kernel_rfl) (fun _ _ _ h => h) (Or.inl ⟨by rfl, fun W hSw => by (try dsimp only at hSw); go_simp⟩) (by assumption) ?_
    (try simp only [List.setIfInBounds_toArray, List.set_cons_zero, List.set_cons_succ])
    refine takx (i := 4) (D := 37) (v := .agg #[.int .i64 a, .int .i64 b, .int .i64 c, .int .i64 d]) rfl rfl (by kernel_rfl) (by kernel_rfl) (by kernel_rfl) (fun _ _ _ h => h) (Or.inl ⟨by rfl, fun W hSw => by (try dsimp only at hSw); go_simp⟩) (by assumption) ?_
    (try simp only [List.setIfInBounds_toArray, List.set_cons_zero, List.set_cons_succ])
    refine takx (i := 5) (D := 38) (v := .int .i64 u) rfl rfl (by kernel_rfl) (by kernel_rfl) (by kernel_rfl) (fun _ _ _ h => h) (Or.inl ⟨by rfl, fun W hSw => by (try dsimp only at hSw); go_simp⟩) (by assumption) ?_
    (try simp only [List.setIfInBounds_toArray, List.set_cons_zero, List.set_cons_succ])
    refine takx (i := 6) (D := 39) (v := .int .i64 v) rfl rfl (by kernel_rfl) (by kernel_rfl) (by kernel_rfl) (fun _ _ _ h => h) (Or.inl ⟨by rfl, fun W hSw => by (try dsimp only at hSw); go_simp⟩) (by assumption) ?_
    (try simp only [List.setIfInBounds_toArray, List.set_cons_zero, List.set_cons_succ])
    refine wpAnyH_ready (rs := [3]) (by kernel_rfl) (by simp) ?_
    refine (AllReadyH.cons rfl (fun K hK => ?_) AllReadyH.nil)
    go_simp
    refine (nrgbaOffset_any a b c d N h3 h4 h5 h6 HN.out x y o HI.out HO.out _).mono ?_
    rintro e X6 ⟨rfl, bc⟩
    refine hK.out _ _ ⟨ck bc hHeld.1, ck bc hHeld.2.1, ck bc hHeld.2.2.1, ck bc hHeld.2.2.2⟩ (fun hHeld => ?_)
    clear hK K
    (try simp only [List.setIfInBounds_toArray, List.set_cons_zero, List.set_cons_succ])
    replace k_r := bk bc k_r
    replace k_q := bk bc k_q
    replace bw := bst bc bw
    clear bc
    refine wpAnyH_ready (rs := [7]) (by kernel_rfl) (by simp) ?_
    refine (AllReadyH.cons rfl (fun K hK => ?_) AllReadyH.nil)
    go_simp
    refine (nrgbaOffset_any a b c d N h3 h4 h5 h6 HN.out u v p HJ.out HP.out _).mono ?_
    rintro e X7 ⟨rfl, bc⟩
    refine hK.out _ _ ⟨ck bc hHeld.1, ck bc hHeld.2.1, ck bc hHeld.2.2.1, ck bc hHeld.2.2.2⟩ (fun hHeld => ?_)
    clear hK K
    (try simp only [List.setIfInBounds_toArray, List.set_cons_zero, List.set_cons_succ])
    replace k_r := bk bc k_r
    replace k_q := bk bc k_q
    replace bw := bst bc bw
    clear bc
    refine takx (i := 8) (D := 12) (v := .int .i64 o) rfl rfl (by kernel_rfl) (by kernel_rfl) (by kernel_rfl) (fun _ _ _ h => h) (Or.inl ⟨by rfl, fun W hSw => by (try dsimp only at hSw); go_simp⟩) (by assumption) ?_
    (try simp only [List.setIfInBounds_toArray, List.set_cons_zero, List.set_cons_succ])
    refine takx (i := 9) (D := 13) (v := .int .i64 p) rfl rfl (by kernel_rfl) (by kernel_rfl) (by kernel_rfl) (fun _ _ _ h => h) (Or.inl ⟨by rfl, fun W hSw => by (try dsimp only at hSw); go_simp⟩) (by assumption) ?_
    (try simp only [List.setIfInBounds_toArray, List.set_cons_zero, List.set_cons_succ])
    refine wpAnyH_done (by kernel_rfl) ?_ _
    clear hHeld
    go_wp2
    go_ret
    exact ⟨rfl, bw⟩
  · have o1 : ¬ (o : Int) + 4 ≤ (p : Int) := by omega
    have o2 : (p : Int) + 4 ≤ (o : Int) := by omega
    go_enter Try.func8, Try.ntmps8
    go_wp2_with fail
    refine (toRect4 a b c d _).mono ?_
    rintro e w1 ⟨rfl, bc⟩
    have bw := bst bc (bsa (Below.refl _ _))
    have k_r : w1.heap[w.heap.size]? = some (.cells #[.int .i64 a, .int .i64 b, .int .i64 c, .int .i64 d] 23 (0, 0)) := by have := bk bc (heap_alloc_new w _); simpa using this
    clear bc
    go_upto_region 2 with fail
    obtain ⟨Y1, g_q, eY, eg⟩ : ∃ Y g, Y = w1.alloc (.cells #[.int .i64 a, .int .i64 b, .int .i64 c, .int .i64 d] 25) ∧ g = w1.heap.size := ⟨_, _, rfl, rfl⟩
    rw [← eY, ← eg]
    have bc : Below w1.heap.size w1 Y1 := by rw [eY]; exact (Below.refl _ _).alloc (Nat.le_refl _) _
    have k_q : Y1.heap[g_q]? = some (.cells #[.int .i64 a, .int .i64 b, .int .i64 c, .int .i64 d] 25 (0, 0)) := by rw [eY, eg]; exact heap_alloc_new w1 _
    replace k_r := bk bc k_r
    replace bw := bst bc bw
    clear bc eY eg
    have q_r := q4c k_r
    have q_q := q4c k_q
    go_wp2_with fail
    refine (fine_yes a b c d HF.out _).mono ?_
    rintro e Y2 ⟨rfl, bc⟩
    clear q_r q_q
    replace k_r := bk bc k_r
    replace k_q := bk bc k_q
    replace bw := bst bc bw
    clear bc
    have q_r := q4c k_r
    have q_q := q4c k_q
    go_wp2_with fail
    refine (has_yes a b c d x y HI.out _).mono ?_
    rintro e Y3 ⟨rfl, bc⟩
    clear q_r q_q
    replace k_r := bk bc k_r
    replace k_q := bk bc k_q
    replace bw := bst bc bw
    clear bc
    have q_r := q4c k_r
    have q_q := q4c k_q
    go_wp2_with fail
    refine (has_yes a b c d u v HJ.out _).mono ?_
    rintro e Y4 ⟨rfl, bc⟩
    clear q_r q_q
    replace k_r := bk bc k_r
    replace k_q := bk bc k_q
    replace bw := bst bc bw
    clear bc
    go_upto_region 4 with fail
    refine wp_region_held_drew (S := fun w' => w'.cell? ⟨g_q, 0, none⟩ = some (.int .i64 a) ∧ w'.cell? ⟨g_q, 1, none⟩ = some (.int .i64 b) ∧ w'.cell? ⟨g_q, 2, none⟩ = some (.int .i64 c) ∧ w'.cell? ⟨g_q, 3, none⟩ = some (.int .i64 d)) (by kernel_rfl) ⟨(q4c k_q).1.1, (q4c k_q).1.2.1, (q4c k_q).1.2.2.1, (q4c k_q).1.2.2.2⟩ ?_
    intro hHeld
    obtain ⟨X5, eX, bc⟩ : ∃ X, X = Y4.drew ∧ Below Y4.heap.size Y4 X := ⟨_, rfl, (Below.refl _ _).drew⟩
    rw [← eX] at hHeld ⊢
    replace k_r := bk bc k_r
    replace k_q := bk bc k_q
    replace bw := bst bc bw
    clear eX bc
    refine takx (i := 0) (D := 33) (v := .agg #[.int .i64 a, .int .i64 b, .int .i64 c, .int .i64 d]) rfl rfl (by kernel_rfl) (by kernel_rfl) (by kernel_rfl) (fun _ _ _ h => h) (Or.inl ⟨by rfl, fun W hSw => by (try dsimp only at hSw); go_simp⟩) (by assumption) ?_
    (try simp only [List.setIfInBounds_toArray, List.set_cons_zero, List.set_cons_succ])
    refine takx (i := 1) (D := 34) (v := .int .i64 x) rfl rfl (by kernel_rfl) (by kernel_rfl) (by kernel_rfl) (fun _ _ _ h => h) (Or.inl ⟨by rfl, fun W hSw => by (try dsimp only at hSw); go_simp⟩) (by assumption) ?_
    (try simp only [List.setIfInBounds_toArray, List.set_cons_zero, List.set_cons_succ])
    refine takx (i := 2) (D := 35) (v := .int .i64 y) rfl rfl (by kernel_rfl) (by kernel_rfl) (by kernel_rfl) (fun _ _ _ h => h) (Or.inl ⟨by rfl, fun W hSw => by (try dsimp only at hSw); go_simp⟩) (by assumption) ?_
    (try simp only [List.setIfInBounds_toArray, List.set_cons_zero, List.set_cons_succ])
    refine takx (i := 4) (D := 37) (v := .agg #[.int .i64 a, .int .i64 b, .int .i64 c, .int .i64 d]) rfl rfl (by kernel_rfl) (by kernel_rfl) (by kernel_rfl) (fun _ _ _ h => h) (Or.inl ⟨by rfl, fun W hSw => by (try dsimp only at hSw); go_simp⟩) (by assumption) ?_
    (try simp only [List.setIfInBounds_toArray, List.set_cons_zero, List.set_cons_succ])
    refine takx (i := 5) (D := 38) (v := .int .i64 u) rfl rfl (by kernel_rfl) (by kernel_rfl) (by kernel_rfl) (fun _ _ _ h => h) (Or.inl ⟨by rfl, fun W hSw => by (try dsimp only at hSw); go_simp⟩) (by assumption) ?_
    (try simp only [List.setIfInBounds_toArray, List.set_cons_zero, List.set_cons_succ])
    refine takx (i := 6) (D := 39) (v := .int .i64 v) rfl rfl (by kernel_rfl) (by kernel_rfl) (by kernel_rfl) (fun _ _ _ h => h) (Or.inl ⟨by rfl, fun W hSw => by (try dsimp only at hSw); go_simp⟩) (by assumption) ?_
    (try simp only [List.setIfInBounds_toArray, List.set_cons_zero, List.set_cons_succ])
    refine wpAnyH_ready (rs := [3]) (by kernel_rfl) (by simp) ?_
    refine (AllReadyH.cons rfl (fun K hK => ?_) AllReadyH.nil)
    go_simp
    refine (nrgbaOffset_any a b c d N h3 h4 h5 h6 HN.out x y o HI.out HO.out _).mono ?_
    rintro e X6 ⟨rfl, bc⟩
    refine hK.out _ _ ⟨ck bc hHeld.1, ck bc hHeld.2.1, ck bc hHeld.2.2.1, ck bc hHeld.2.2.2⟩ (fun hHeld => ?_)
    clear hK K
    (try simp only [List.setIfInBounds_toArray, List.set_cons_zero, List.set_cons_succ])
    replace k_r := bk bc k_r
    replace k_q := bk bc k_q
    replace bw := bst bc bw
    clear bc
    refine wpAnyH_ready (rs := [7]) (by kernel_rfl) (by simp) ?_
    refine (AllReadyH.cons rfl (fun K hK => ?_) AllReadyH.nil)
    go_simp
    refine (nrgbaOffset_any a b c d N h3 h4 h5 h6 HN.out u v p HJ.out HP.out _).mono ?_
    rintro e X7 ⟨rfl, bc⟩
    refine hK.out _ _ ⟨ck bc hHeld.1, ck bc hHeld.2.1, ck bc hHeld.2.2.1, ck bc hHeld.2.2.2⟩ (fun hHeld => ?_)
    clear hK K
    (try simp only [List.setIfInBounds_toArray, List.set_cons_zero, List.set_cons_succ])
    replace k_r := bk bc k_r
    replace k_q := bk bc k_q
    replace bw := bst bc bw
    clear bc
    refine takx (i := 8) (D := 12) (v := .int .i64 o) rfl rfl (by kernel_rfl) (by kernel_rfl) (by kernel_rfl) (fun _ _ _ h => h) (Or.inl ⟨by rfl, fun W hSw => by (try dsimp only at hSw); go_simp⟩) (by assumption) ?_
    (try simp only [List.setIfInBounds_toArray, List.set_cons_zero, List.set_cons_succ])
    refine takx (i := 9) (D := 13) (v := .int .i64 p) rfl rfl (by kernel_rfl) (by kernel_rfl) (by kernel_rfl) (fun _ _ _ h => h) (Or.inl ⟨by rfl, fun W hSw => by (try dsimp only at hSw); go_simp⟩) (by assumption) ?_
    (try simp only [List.setIfInBounds_toArray, List.set_cons_zero, List.set_cons_succ])
    refine wpAnyH_done (by kernel_rfl) ?_ _
    clear hHeld
    go_wp2
    go_ret
    exact ⟨rfl, bw⟩

end Go.Proofs.Ytkhofahobcegiaa

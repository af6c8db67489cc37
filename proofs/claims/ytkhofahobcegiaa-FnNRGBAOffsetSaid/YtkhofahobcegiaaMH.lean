/-
  The walk of the law FnNRGBAOffset. No condition.
-/
import Derived.Test.YtkhofahobcegiaaNH1
import Derived.Test.YtkhofahobcegiaaNPL
namespace Go.Proofs.Ytkhofahobcegiaa
open Go.ChangeShapes Go.WideShapes Go.ChangeAt Go.RowKit
set_option linter.unusedVariables false
set_option linter.unusedSimpArgs false

set_option maxRecDepth 100000 in
set_option maxHeartbeats 8000000 in
theorem fnNRGBAOffset_walk (w : World) (q : Q4) (hq : q.ok) (x : Int) (hx : I64 x) (y : Int) (hy : I64 y) :
    Calls Try.prog 9 #[q.val, .int .i64 x, .int .i64 y] w fun e w' => e = .returned (.bool true) ∧ Below w.heap.size w w' := by
  obtain ⟨a, b, c, d⟩ := q
  obtain ⟨ha, hb, hc, hd⟩ := hq
  show Calls Try.prog 9 #[.agg #[.int .i64 a, .int .i64 b, .int .i64 c, .int .i64 d], .int .i64 x, .int .i64 y] w _
  have hrs := rect_same a b c d
  have hrd := rect_diff a b c d
  have hp0 := fun st v => pfld0 a b c d st v
  have hp2 := fun st A n cp => pfld2 a b c d st A n cp
  by_cases hf : Fine a b c d
  case neg =>
    have HF := Lib.hid hf
    clear hf
    go_enter Try.func9, Try.ntmps9
    go_wp2_with fail
    refine (toRect4 a b c d _).mono ?_
    rintro e w1 ⟨rfl, bc⟩
    have bw := bst bc (bsa (Below.refl _ _))
    have k_r : w1.heap[w.heap.size]? = some (.cells #[.int .i64 a, .int .i64 b, .int .i64 c, .int .i64 d] 23 (0, 0)) := by have := bk bc (heap_alloc_new w _); simpa using this
    clear bc
    go_upto_region 2 with fail
    obtain ⟨Y1, g_q, eY, eg⟩ : ∃ Y g, Y = w1.alloc (.cells #[.int .i64 a, .int .i64 b, .int .i64 c, .int .i64 d] 25) ∧ g = w1.heap.size := ⟨_, _, rfl, rfl⟩
    rw [← eY, ← eg]
    have bc : Below w1.heap.size w1 Y1 := by rw [eY]; exact (Below.refl _ _).alloc (Nat.le_refl _) _
    have k_q : Y1.heap[g_q]? = some (.cells #[.int .i64 a, .int .i64 b, .int .i64 c, .int .i64 d] 25 (0, 0)) := by rw [eY, eg]; exact heap_alloc_new w1 _
    replace k_r := bk bc k_r
    replace bw := bst bc bw
    clear bc eY eg
    have q_r := q4c k_r
    have q_q := q4c k_q
    go_wp2_with fail
    refine (fine_no a b c d ha hb hc hd HF.out _).mono ?_
    rintro e Y2 ⟨rfl, bc⟩
    clear q_r q_q
    replace k_r := bk bc k_r
    replace k_q := bk bc k_q
    replace bw := bst bc bw
    clear bc
    go_wp2
    go_ret
    exact ⟨rfl, bw⟩
  obtain ⟨h3, h4, h5, h6, M, hM⟩ := fine_area hf
  obtain ⟨N, hN⟩ : ∃ N : Nat, 4 * (c - a) * (d - b) = N := ⟨4 * M, by rw [Int.mul_assoc, hM]; omega⟩
  have HF := Lib.hid hf
  have HN := Lib.hid hN
  have HM := Lib.hid hM
  clear hf hN hM
  by_cases hin : In a b c d x y
  case neg =>
    have HI := Lib.hid hin
    clear hin
    go_enter Try.func9, Try.ntmps9
    go_wp2_with fail
    refine (toRect4 a b c d _).mono ?_
    rintro e w1 ⟨rfl, bc⟩
    have bw := bst bc (bsa (Below.refl _ _))
    have k_r : w1.heap[w.heap.size]? = some (.cells #[.int .i64 a, .int .i64 b, .int .i64 c, .int .i64 d] 23 (0, 0)) := by have := bk bc (heap_alloc_new w _); simpa using this
    clear bc
    go_upto_region 2 with fail
    obtain ⟨Y1, g_q, eY, eg⟩ : ∃ Y g, Y = w1.alloc (.cells #[.int .i64 a, .int .i64 b, .int .i64 c, .int .i64 d] 25) ∧ g = w1.heap.size := ⟨_, _, rfl, rfl⟩
    rw [← eY, ← eg]
    have bc : Below w1.heap.size w1 Y1 := by rw [eY]; exact (Below.refl _ _).alloc (Nat.le_refl _) _
    have k_q : Y1.heap[g_q]? = some (.cells #[.int .i64 a, .int .i64 b, .int .i64 c, .int .i64 d] 25 (0, 0)) := by rw [eY, eg]; exact heap_alloc_new w1 _
    replace k_r := bk bc k_r
    replace bw := bst bc bw
    clear bc eY eg
    have q_r := q4c k_r
    have q_q := q4c k_q
    go_wp2_with fail
    refine (fine_yes a b c d HF.out _).mono ?_
    rintro e Y2 ⟨rfl, bc⟩
    clear q_r q_q
    replace k_r := bk bc k_r
    replace k_q := bk bc k_q
    replace bw := bst bc bw
    clear bc
    have q_r := q4c k_r
    have q_q := q4c k_q
    go_wp2_with fail
    refine (has_no a b c d x y HI.out _).mono ?_
    rintro e Y3 ⟨rfl, bc⟩
    clear q_r q_q
    replace k_r := bk bc k_r
    replace k_q := bk bc k_q
    replace bw := bst bc bw
    clear bc
    go_wp2
    go_ret
    exact ⟨rfl, bw⟩
  have HI := Lib.hid hin
  clear hin
  obtain ⟨o, ho, hoN⟩ := place_lt HN.out HI.out
  have HO := Lib.hid ho
  clear ho
  obtain ⟨i1, i2, i3, i4⟩ := HI.out
  have k1 : 0 ≤ (y - b) * (4 * (c - a)) := Int.mul_nonneg (by omega) (by omega)
  have k2 : (y - b) * (4 * (c - a)) ≤ 1000 * 4000 := Int.mul_le_mul (by omega) (by omega) (by omega) (by decide)
  have e1 : IntKind.i64.wrap (y - b) = y - b := IntWalk.i64_in _ ⟨by omega, by omega⟩
  have e2 : IntKind.i64.wrap ((y - b) * (4 * (c - a))) = (y - b) * (4 * (c - a)) := IntWalk.i64_in _ ⟨by omega, by omega⟩
  have e3 : IntKind.i64.wrap (x - a) = x - a := IntWalk.i64_in _ ⟨by omega, by omega⟩
  have e4 : IntKind.i64.wrap ((x - a) * 4) = (x - a) * 4 := IntWalk.i64_in _ ⟨by omega, by omega⟩
  have e5 : IntKind.i64.wrap ((y - b) * (4 * (c - a)) + (x - a) * 4) = (o : Int) := by have := HO.out; rw [this]; exact IntWalk.i64_in _ ⟨by omega, by omega⟩
  have eo : ((o : Int) == (o : Int)) = true := by simp
  clear k1 k2 i1 i2 i3 i4
  go_enter Try.func9, Try.ntmps9
  go_wp2_with fail
  refine (toRect4 a b c d _).mono ?_
  rintro e w1 ⟨rfl, bc⟩
  have bw := bst bc (bsa (Below.refl _ _))
  have k_r : w1.heap[w.heap.size]? = some (.cells #[.int .i64 a, .int .i64 b, .int .i64 c, .int .i64 d] 23 (0, 0)) := by have := bk bc (heap_alloc_new w _); simpa using this
  clear bc
  go_upto_region 2 with fail
  obtain ⟨Y1, g_q, eY, eg⟩ : ∃ Y g, Y = w1.alloc (.cells #[.int .i64 a, .int .i64 b, .int .i64 c, .int .i64 d] 25) ∧ g = w1.heap.size := ⟨_, _, rfl, rfl⟩
  rw [← eY, ← eg]
  have bc : Below w1.heap.size w1 Y1 := by rw [eY]; exact (Below.refl _ _).alloc (Nat.le_refl _) _
  have k_q : Y1.heap[g_q]? = some (.cells #[.int .i64 a, .int .i64 b, .int .i64 c, .int .i64 d] 25 (0, 0)) := by rw [eY, eg]; exact heap_alloc_new w1 _
  replace k_r := bk bc k_r
  replace bw := bst bc bw
  clear bc eY eg
  have q_r := q4c k_r
  have q_q := q4c k_q
  go_wp2_with fail
  refine (fine_yes a b c d HF.out _).mono ?_
  rintro e Y2 ⟨rfl, bc⟩
  clear q_r q_q
  replace k_r := bk bc k_r
  replace k_q := bk bc k_q
  replace bw := bst bc bw
  clear bc
  have q_r := q4c k_r
  have q_q := q4c k_q
  go_wp2_with fail
  refine (has_yes a b c d x y HI.out _).mono ?_
  rintro e Y3 ⟨rfl, bc⟩
  clear q_r q_q
  replace k_r := bk bc k_r
  replace k_q := bk bc k_q
  replace bw := bst bc bw
  clear bc
  have q_r := q4c k_r
  have q_q := q4c k_q
  go_wp2_with fail
  refine (nrgbaNew_any a b c d N h3 h4 h5 h6 HN.out _).mono ?_
  rintro e Y4 ⟨A1, cp1, rfl, r1, lo1, bc⟩
  clear q_r q_q
  replace k_r := bk bc k_r
  replace k_q := bk bc k_q
  replace bw := bst bc bw
  clear bc
  go_upto_region 5 with fail
  obtain ⟨Y5, g_p, eY, eg⟩ : ∃ Y g, Y = Y4.alloc (.cells #[.int .i64 a, .int .i64 b, .int .i64 c, .int .i64 d, .int .i64 (4 * (c - a)), .slice A1 N cp1] 37) ∧ g = Y4.heap.size := ⟨_, _, rfl, rfl⟩
  rw [← eY, ← eg]
  have bc : Below Y4.heap.size Y4 Y5 := by rw [eY]; exact (Below.refl _ _).alloc (Nat.le_refl _) _
  have k_p : Y5.heap[g_p]? = some (.cells #[.int .i64 a, .int .i64 b, .int .i64 c, .int .i64 d, .int .i64 (4 * (c - a)), .slice A1 N cp1] 37 (0, 0)) := by rw [eY, eg]; exact heap_alloc_new Y4 _
  replace k_r := bk bc k_r
  replace k_q := bk bc k_q
  replace bw := bst bc bw
  clear bc eY eg
  refine wp_region_held_drew (S := fun w' => w'.cell? ⟨g_q, 0, none⟩ = some (.int .i64 a) ∧ w'.cell? ⟨g_q, 1, none⟩ = some (.int .i64 b) ∧ w'.cell? ⟨g_q, 2, none⟩ = some (.int .i64 c) ∧ w'.cell? ⟨g_q, 3, none⟩ = some (.int .i64 d) ∧ w'.cell? ⟨g_p, 0, none⟩ = some (.int .i64 a) ∧ w'.cell? ⟨g_p, 1, none⟩ = some (.int .i64 b) ∧ w'.cell? ⟨g_p, 2, none⟩ = some (.int .i64 c) ∧ w'.cell? ⟨g_p, 3, none⟩ = some (.int .i64 d) ∧ w'.cell? ⟨g_p, 4, none⟩ = some (.int .i64 (4 * (c - a))) ∧ w'.cell? ⟨g_p, 5, none⟩ = some (.slice A1 N cp1)) (by kernel_rfl) ⟨(q4c k_q).1.1, (q4c k_q).1.2.1, (q4c k_q).1.2.2.1, (q4c k_q).1.2.2.2, (q6c k_p).1.1, (q6c k_p).1.2.1, (q6c k_p).1.2.2.1, (q6c k_p).1.2.2.2.1, (q6c k_p).1.2.2.2.2.1, (q6c k_p).1.2.2.2.2.2⟩ ?_
  intro hHeld
  obtain ⟨X6, eX, bc⟩ : ∃ X, X = Y5.drew ∧ Below Y5.heap.size Y5 X := ⟨_, rfl, (Below.refl _ _).drew⟩
  rw [← eX] at hHeld ⊢
  replace k_r := bk bc k_r
  replace k_q := bk bc k_q
  replace k_p := bk bc k_p
  replace bw := bst bc bw
  clear eX bc
  refine takx (i := 0) (D := 23) (v := .agg #[.int .i64 a, .int .i64 b, .int .i64 c, .int .i64 d]) rfl rfl (by kernel_rfl) (by kernel_rfl) (by kernel_rfl) (fun _ _ _ h => h) (Or.inl ⟨by rfl, fun W hSw => by (try dsimp only at hSw); go_simp⟩) (by assumption) ?_
  (try simp only [List.setIfInBounds_toArray, List.set_cons_zero, List.set_cons_succ])
  refine takx (i := 1) (D := 24) (v := .int .i64 x) rfl rfl (by kernel_rfl) (by kernel_rfl) (by kernel_rfl) (fun _ _ _ h => h) (Or.inl ⟨by rfl, fun W hSw => by (try dsimp only at hSw); go_simp⟩) (by assumption) ?_
  (try simp only [List.setIfInBounds_toArray, List.set_cons_zero, List.set_cons_succ])
  refine takx (i := 2) (D := 25) (v := .int .i64 y) rfl rfl (by kernel_rfl) (by kernel_rfl) (by kernel_rfl) (fun _ _ _ h => h) (Or.inl ⟨by rfl, fun W hSw => by (try dsimp only at hSw); go_simp⟩) (by assumption) ?_
  (try simp only [List.setIfInBounds_toArray, List.set_cons_zero, List.set_cons_succ])
  refine takx (i := 4) (D := 27) (v := .int .i64 y) rfl rfl (by kernel_rfl) (by kernel_rfl) (by kernel_rfl) (fun _ _ _ h => h) (Or.inl ⟨by rfl, fun W hSw => by (try dsimp only at hSw); go_simp⟩) (by assumption) ?_
  (try simp only [List.setIfInBounds_toArray, List.set_cons_zero, List.set_cons_succ])
  refine takx (i := 5) (D := 28) (v := .pointer (some ⟨g_p, 0, none⟩)) rfl rfl (by kernel_rfl) (by kernel_rfl) (by kernel_rfl) (fun _ _ _ h => h) (Or.inl ⟨by rfl, fun W hSw => by (try dsimp only at hSw); go_simp⟩) (by assumption) ?_
  (try simp only [List.setIfInBounds_toArray, List.set_cons_zero, List.set_cons_succ])
  refine takx (i := 6) (D := 29) (v := .pointer (some ⟨g_p, 1, none⟩)) rfl rfl (by kernel_rfl) (by kernel_rfl) (by kernel_rfl) (fun _ _ _ h => h) (Or.inl ⟨by rfl, fun W hSw => by (try dsimp only at hSw); go_simp⟩) (by assumption) ?_
  (try simp only [List.setIfInBounds_toArray, List.set_cons_zero, List.set_cons_succ])
  refine takx (i := 7) (D := 30) (v := .int .i64 b) rfl rfl (by kernel_rfl) (by kernel_rfl) (by kernel_rfl) (fun _ _ _ h => h) (Or.inl ⟨by rfl, fun W hSw => by (try dsimp only at hSw); go_simp⟩) (by assumption) ?_
  (try simp only [List.setIfInBounds_toArray, List.set_cons_zero, List.set_cons_succ])
  refine takx (i := 8) (D := 31) (v := .int .i64 (y - b)) rfl rfl (by kernel_rfl) (by kernel_rfl) (by kernel_rfl) (fun _ _ _ h => h) (Or.inl ⟨by rfl, fun W hSw => by (try dsimp only at hSw); go_simp⟩) (by assumption) ?_
  (try simp only [List.setIfInBounds_toArray, List.set_cons_zero, List.set_cons_succ])
  refine takx (i := 9) (D := 32) (v := .pointer (some ⟨g_p, 4, none⟩)) rfl rfl (by kernel_rfl) (by kernel_rfl) (by kernel_rfl) (fun _ _ _ h => h) (Or.inl ⟨by rfl, fun W hSw => by (try dsimp only at hSw); go_simp⟩) (by assumption) ?_
  (try simp only [List.setIfInBounds_toArray, List.set_cons_zero, List.set_cons_succ])
  refine takx (i := 10) (D := 33) (v := .int .i64 (4 * (c - a))) rfl rfl (by kernel_rfl) (by kernel_rfl) (by kernel_rfl) (fun _ _ _ h => h) (Or.inl ⟨by rfl, fun W hSw => by (try dsimp only at hSw); go_simp⟩) (by assumption) ?_
  (try simp only [List.setIfInBounds_toArray, List.set_cons_zero, List.set_cons_succ])
  refine takx (i := 11) (D := 34) (v := .int .i64 ((y - b) * (4 * (c - a)))) rfl rfl (by kernel_rfl) (by kernel_rfl) (by kernel_rfl) (fun _ _ _ h => h) (Or.inl ⟨by rfl, fun W hSw => by (try dsimp only at hSw); go_simp⟩) (by assumption) ?_
  (try simp only [List.setIfInBounds_toArray, List.set_cons_zero, List.set_cons_succ])
  refine takx (i := 12) (D := 35) (v := .int .i64 x) rfl rfl (by kernel_rfl) (by kernel_rfl) (by kernel_rfl) (fun _ _ _ h => h) (Or.inl ⟨by rfl, fun W hSw => by (try dsimp only at hSw); go_simp⟩) (by assumption) ?_
  (try simp only [List.setIfInBounds_toArray, List.set_cons_zero, List.set_cons_succ])
  refine takx (i := 13) (D := 36) (v := .pointer (some ⟨g_p, 0, none⟩)) rfl rfl (by kernel_rfl) (by kernel_rfl) (by kernel_rfl) (fun _ _ _ h => h) (Or.inl ⟨by rfl, fun W hSw => by (try dsimp only at hSw); go_simp⟩) (by assumption) ?_
  (try simp only [List.setIfInBounds_toArray, List.set_cons_zero, List.set_cons_succ])
  refine takx (i := 14) (D := 37) (v := .pointer (some ⟨g_p, 0, none⟩)) rfl rfl (by kernel_rfl) (by kernel_rfl) (by kernel_rfl) (fun _ _ _ h => h) (Or.inl ⟨by rfl, fun W hSw => by (try dsimp only at hSw); go_simp⟩) (by assumption) ?_
  (try simp only [List.setIfInBounds_toArray, List.set_cons_zero, List.set_cons_succ])
  refine takx (i := 15) (D := 38) (v := .int .i64 a) rfl rfl (by kernel_rfl) (by kernel_rfl) (by kernel_rfl) (fun _ _ _ h => h) (Or.inl ⟨by rfl, fun W hSw => by (try dsimp only at hSw); go_simp⟩) (by assumption) ?_
  (try simp only [List.setIfInBounds_toArray, List.set_cons_zero, List.set_cons_succ])
  refine takx (i := 16) (D := 39) (v := .int .i64 (x - a)) rfl rfl (by kernel_rfl) (by kernel_rfl) (by kernel_rfl) (fun _ _ _ h => h) (Or.inl ⟨by rfl, fun W hSw => by (try dsimp only at hSw); go_simp⟩) (by assumption) ?_
  (try simp only [List.setIfInBounds_toArray, List.set_cons_zero, List.set_cons_succ])
  refine takx (i := 17) (D := 40) (v := .int .i64 ((x - a) * 4)) rfl rfl (by kernel_rfl) (by kernel_rfl) (by kernel_rfl) (fun _ _ _ h => h) (Or.inl ⟨by rfl, fun W hSw => by (try dsimp only at hSw); go_simp⟩) (by assumption) ?_
  (try simp only [List.setIfInBounds_toArray, List.set_cons_zero, List.set_cons_succ])
  refine takx (i := 18) (D := 41) (v := .int .i64 o) rfl rfl (by kernel_rfl) (by kernel_rfl) (by kernel_rfl) (fun _ _ _ h => h) (Or.inl ⟨by rfl, fun W hSw => by (try dsimp only at hSw); go_simp⟩) (by assumption) ?_
  (try simp only [List.setIfInBounds_toArray, List.set_cons_zero, List.set_cons_succ])
  refine wpAnyH_ready (rs := [3]) (by kernel_rfl) (by simp) ?_
  refine (AllReadyH.cons rfl (fun K hK => ?_) AllReadyH.nil)
  go_simp
  refine (nrgbaOffset_any a b c d N h3 h4 h5 h6 HN.out x y o HI.out HO.out _).mono ?_
  rintro e X7 ⟨rfl, bc⟩
  refine hK.out _ _ ⟨ck bc hHeld.1, ck bc hHeld.2.1, ck bc hHeld.2.2.1, ck bc hHeld.2.2.2.1, ck bc hHeld.2.2.2.2.1, ck bc hHeld.2.2.2.2.2.1, ck bc hHeld.2.2.2.2.2.2.1, ck bc hHeld.2.2.2.2.2.2.2.1, ck bc hHeld.2.2.2.2.2.2.2.2.1, ck bc hHeld.2.2.2.2.2.2.2.2.2⟩ (fun hHeld => ?_)
  clear hK K
  (try simp only [List.setIfInBounds_toArray, List.set_cons_zero, List.set_cons_succ])
  replace k_r := bk bc k_r
  replace k_q := bk bc k_q
  replace k_p := bk bc k_p
  replace bw := bst bc bw
  clear bc
  refine takx (i := 19) (D := 42) (v := .bool true) rfl rfl (by kernel_rfl) (by kernel_rfl) (by kernel_rfl) (fun _ _ _ h => h) (Or.inl ⟨by rfl, fun W hSw => by (try dsimp only at hSw); go_simp⟩) (by assumption) ?_
  (try simp only [List.setIfInBounds_toArray, List.set_cons_zero, List.set_cons_succ])
  refine takx (i := 20) (D := 43) (v := .bool true) rfl rfl (by kernel_rfl) (by kernel_rfl) (by kernel_rfl) (fun _ _ _ h => h) (Or.inl ⟨by rfl, fun W hSw => by (try dsimp only at hSw); go_simp⟩) (by assumption) ?_
  (try simp only [List.setIfInBounds_toArray, List.set_cons_zero, List.set_cons_succ])
  refine takx (i := 21) (D := 44) (v := .agg #[.int .i64 a, .int .i64 b, .int .i64 c, .int .i64 d]) rfl rfl (by kernel_rfl) (by kernel_rfl) (by kernel_rfl) (fun _ _ _ h => h) (Or.inl ⟨by rfl, fun W hSw => by (try dsimp only at hSw); go_simp⟩) (by assumption) ?_
  (try simp only [List.setIfInBounds_toArray, List.set_cons_zero, List.set_cons_succ])
  refine takx (i := 22) (D := 45) (v := .int .i64 x) rfl rfl (by kernel_rfl) (by kernel_rfl) (by kernel_rfl) (fun _ _ _ h => h) (Or.inl ⟨by rfl, fun W hSw => by (try dsimp only at hSw); go_simp⟩) (by assumption) ?_
  (try simp only [List.setIfInBounds_toArray, List.set_cons_zero, List.set_cons_succ])
  refine takx (i := 23) (D := 46) (v := .int .i64 y) rfl rfl (by kernel_rfl) (by kernel_rfl) (by kernel_rfl) (fun _ _ _ h => h) (Or.inl ⟨by rfl, fun W hSw => by (try dsimp only at hSw); go_simp⟩) (by assumption) ?_
  (try simp only [List.setIfInBounds_toArray, List.set_cons_zero, List.set_cons_succ])
  refine takx (i := 25) (D := 48) (v := .agg #[.int .i64 a, .int .i64 b, .int .i64 c, .int .i64 d]) rfl rfl (by kernel_rfl) (by kernel_rfl) (by kernel_rfl) (fun _ _ _ h => h) (Or.inl ⟨by rfl, fun W hSw => by (try dsimp only at hSw); go_simp⟩) (by assumption) ?_
  (try simp only [List.setIfInBounds_toArray, List.set_cons_zero, List.set_cons_succ])
  refine takx (i := 26) (D := 49) (v := .int .i64 x) rfl rfl (by kernel_rfl) (by kernel_rfl) (by kernel_rfl) (fun _ _ _ h => h) (Or.inl ⟨by rfl, fun W hSw => by (try dsimp only at hSw); go_simp⟩) (by assumption) ?_
  (try simp only [List.setIfInBounds_toArray, List.set_cons_zero, List.set_cons_succ])
  refine takx (i := 27) (D := 50) (v := .int .i64 y) rfl rfl (by kernel_rfl) (by kernel_rfl) (by kernel_rfl) (fun _ _ _ h => h) (Or.inl ⟨by rfl, fun W hSw => by (try dsimp only at hSw); go_simp⟩) (by assumption) ?_
  (try simp only [List.setIfInBounds_toArray, List.set_cons_zero, List.set_cons_succ])
  refine wpAnyH_ready (rs := [24]) (by kernel_rfl) (by simp) ?_
  refine (AllReadyH.cons rfl (fun K hK => ?_) AllReadyH.nil)
  go_simp
  refine (nrgbaOffset_any a b c d N h3 h4 h5 h6 HN.out x y o HI.out HO.out _).mono ?_
  rintro e X8 ⟨rfl, bc⟩
  refine hK.out _ _ ⟨ck bc hHeld.1, ck bc hHeld.2.1, ck bc hHeld.2.2.1, ck bc hHeld.2.2.2.1, ck bc hHeld.2.2.2.2.1, ck bc hHeld.2.2.2.2.2.1, ck bc hHeld.2.2.2.2.2.2.1, ck bc hHeld.2.2.2.2.2.2.2.1, ck bc hHeld.2.2.2.2.2.2.2.2.1, ck bc hHeld.2.2.2.2.2.2.2.2.2⟩ (fun hHeld => ?_)
  clear hK K
  (try simp only [List.setIfInBounds_toArray, List.set_cons_zero, List.set_cons_succ])
  replace k_r := bk bc k_r
  replace k_q := bk bc k_q
  replace k_p := bk bc k_p
  replace bw := bst bc bw
  clear bc
  refine wpAnyH_ready (rs := [28]) (by kernel_rfl) (by simp) ?_
  refine (AllReadyH.cons rfl (fun K hK => ?_) AllReadyH.nil)
  go_simp
  refine (snrgbaOffset_any a b c d x y (o : Int) (by omega) (by omega) HI.out HO.out _).mono ?_
  rintro e X9 ⟨rfl, bc⟩
  refine hK.out _ _ ⟨ck bc hHeld.1, ck bc hHeld.2.1, ck bc hHeld.2.2.1, ck bc hHeld.2.2.2.1, ck bc hHeld.2.2.2.2.1, ck bc hHeld.2.2.2.2.2.1, ck bc hHeld.2.2.2.2.2.2.1, ck bc hHeld.2.2.2.2.2.2.2.1, ck bc hHeld.2.2.2.2.2.2.2.2.1, ck bc hHeld.2.2.2.2.2.2.2.2.2⟩ (fun hHeld => ?_)
  clear hK K
  (try simp only [List.setIfInBounds_toArray, List.set_cons_zero, List.set_cons_succ])
  replace k_r := bk bc k_r
  replace k_q := bk bc k_q
  replace k_p := bk bc k_p
  replace bw := bst bc bw
  clear bc
  refine takx (i := 29) (D := 52) (v := .bool true) rfl rfl (by kernel_rfl) (by kernel_rfl) (by kernel_rfl) (fun _ _ _ h => h) (Or.inl ⟨by rfl, fun W hSw => by (try dsimp only at hSw); go_simp⟩) (by assumption) ?_
  (try simp only [List.setIfInBounds_toArray, List.set_cons_zero, List.set_cons_succ])
  refine takx (i := 30) (D := 53) (v := .bool true) rfl rfl (by kernel_rfl) (by kernel_rfl) (by kernel_rfl) (fun _ _ _ h => h) (Or.inl ⟨by rfl, fun W hSw => by (try dsimp only at hSw); go_simp⟩) (by assumption) ?_
  (try simp only [List.setIfInBounds_toArray, List.set_cons_zero, List.set_cons_succ])
  refine takx (i := 31) (D := 54) (v := .bool true) rfl rfl (by kernel_rfl) (by kernel_rfl) (by kernel_rfl) (fun _ _ _ h => h) (Or.inl ⟨by rfl, fun W hSw => by (try dsimp only at hSw); go_simp⟩) (by assumption) ?_
  (try simp only [List.setIfInBounds_toArray, List.set_cons_zero, List.set_cons_succ])
  refine takx (i := 32) (D := 55) (v := .pointer (some ⟨g_p, 0, none⟩)) rfl rfl (by kernel_rfl) (by kernel_rfl) (by kernel_rfl) (fun _ _ _ h => h) (Or.inl ⟨by rfl, fun W hSw => by (try dsimp only at hSw); go_simp⟩) (by assumption) ?_
  (try simp only [List.setIfInBounds_toArray, List.set_cons_zero, List.set_cons_succ])
  refine takx (i := 33) (D := 56) (v := .agg #[.int .i64 a, .int .i64 b, .int .i64 c, .int .i64 d]) rfl rfl (by kernel_rfl) (by kernel_rfl) (by kernel_rfl) (fun _ _ _ h => h) (Or.inl ⟨by rfl, fun W hSw => by (try dsimp only at hSw); go_simp⟩) (by assumption) ?_
  (try simp only [List.setIfInBounds_toArray, List.set_cons_zero, List.set_cons_succ])
  refine takx (i := 34) (D := 57) (v := .agg #[.int .i64 a, .int .i64 b, .int .i64 c, .int .i64 d]) rfl rfl (by kernel_rfl) (by kernel_rfl) (by kernel_rfl) (fun _ _ _ h => h) (Or.inl ⟨by rfl, fun W hSw => by (try dsimp only at hSw); go_simp⟩) (by assumption) ?_
  (try simp only [List.setIfInBounds_toArray, List.set_cons_zero, List.set_cons_succ])
  refine takx (i := 35) (D := 58) (v := .bool true) rfl rfl (by kernel_rfl) (by kernel_rfl) (by kernel_rfl) (fun _ _ _ h => h) (Or.inl ⟨by rfl, fun W hSw => by (try dsimp only at hSw); go_simp⟩) (by assumption) ?_
  (try simp only [List.setIfInBounds_toArray, List.set_cons_zero, List.set_cons_succ])
  refine takx (i := 36) (D := 59) (v := .bool true) rfl rfl (by kernel_rfl) (by kernel_rfl) (by kernel_rfl) (fun _ _ _ h => h) (Or.inl ⟨by rfl, fun W hSw => by (try dsimp only at hSw); go_simp⟩) (by assumption) ?_
  (try simp only [List.setIfInBounds_toArray, List.set_cons_zero, List.set_cons_succ])
  refine takx (i := 37) (D := 6) (v := .bool true) rfl rfl (by kernel_rfl) (by kernel_rfl) (by kernel_rfl) (fun _ _ _ h => h) (Or.inl ⟨by rfl, fun W hSw => by (try dsimp only at hSw); go_simp⟩) (by assumption) ?_
  (try simp only [List.setIfInBounds_toArray, List.set_cons_zero, List.set_cons_succ])
  refine wpAnyH_done (by kernel_rfl) ?_ _
  clear hHeld
  go_wp2
  go_ret
  exact ⟨rfl, bw⟩

end Go.Proofs.Ytkhofahobcegiaa

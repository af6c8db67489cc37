/-
  The walk of the law FnNRGBAOpaque. No condition.
-/
import Derived.Test.YtkhofahobcegiaaNH1
import Derived.Test.YtkhofahobcegiaaNPL
namespace Go.Proofs.Ytkhofahobcegiaa
open Go.ChangeShapes Go.WideShapes Go.ChangeAt Go.RowKit
set_option linter.unusedVariables false
set_option linter.unusedSimpArgs false

set_option maxRecDepth 100000 in
set_option maxHeartbeats 8000000 in
theorem fnNRGBAOpaque_walk (w : World) (q : Q4) (hq : q.ok) (Z : Option Addr) (n cp : Nat) (zs : List Int) (hr : Rd w w.heap.size Z n zs) :
    Calls Try.prog 15 #[q.val, .slice Z n cp] w fun e w' => e = .returned (.bool true) ∧ Below w.heap.size w w' := by
  obtain ⟨a, b, c, d⟩ := q
  obtain ⟨ha, hb, hc, hd⟩ := hq
  show Calls Try.prog 15 #[.agg #[.int .i64 a, .int .i64 b, .int .i64 c, .int .i64 d], .slice Z n cp] w _
  have hrs := rect_same a b c d
  have hrd := rect_diff a b c d
  have hp0 := fun st v => pfld0 a b c d st v
  have hp2 := fun st A n cp => pfld2 a b c d st A n cp
  have HR := Lib.hid hr
  clear hr
  by_cases hf : Fine a b c d
  case neg =>
    have HF := Lib.hid hf
    clear hf
    go_enter Try.func15, Try.ntmps15
    go_wp2_with fail
    refine (toRect4 a b c d _).mono ?_
    rintro e w1 ⟨rfl, bc⟩
    have bw := bst bc (bsa (Below.refl _ _))
    have k_r : w1.heap[w.heap.size]? = some (.cells #[.int .i64 a, .int .i64 b, .int .i64 c, .int .i64 d] 23 (0, 0)) := by have := bk bc (heap_alloc_new w _); simpa using this
    clear bc
    go_upto_region 2 with fail
    obtain ⟨Y1, g_q, eY, eg⟩ : ∃ Y g, Y = w1.alloc (.cells #[.int .i64 a, .int .i64 b, .int .i64 c, .int .i64 d] 25) ∧ g = w1.heap.size := ⟨_, _, rfl, rfl⟩
    rw [← eY, ← eg]
    have bc : Below w1.heap.size w1 Y1 := by rw [eY]; exact (Below.refl _ _).alloc (Nat.le_refl _) _
    have k_q : Y1.heap[g_q]? = some (.cells #[.int .i64 a, .int .i64 b, .int .i64 c, .int .i64 d] 25 (0, 0)) := by rw [eY, eg]; exact heap_alloc_new w1 _
    replace k_r := bk bc k_r
    replace bw := bst bc bw
    clear bc eY eg
    refine wp_region_held_drew (S := fun w' => w'.cell? ⟨w.heap.size, 0, none⟩ = some (.int .i64 a) ∧ w'.cell? ⟨w.heap.size, 1, none⟩ = some (.int .i64 b) ∧ w'.cell? ⟨w.heap.size, 2, none⟩ = some (.int .i64 c) ∧ w'.cell? ⟨w.heap.size, 3, none⟩ = some (.int .i64 d) ∧ w'.cell? ⟨g_q, 0, none⟩ = some (.int .i64 a) ∧ w'.cell? ⟨g_q, 1, none⟩ = some (.int .i64 b) ∧ w'.cell? ⟨g_q, 2, none⟩ = some (.int .i64 c) ∧ w'.cell? ⟨g_q, 3, none⟩ = some (.int .i64 d)) (by kernel_rfl) ⟨(q4c k_r).1.1, (q4c k_r).1.2.1, (q4c k_r).1.2.2.1, (q4c k_r).1.2.2.2, (q4c k_q).1.1, (q4c k_q).1.2.1, (q4c k_q).1.2.2.1, (q4c k_q).1.2.2.2⟩ ?_
    intro hHeld
    obtain ⟨X2, eX, bc⟩ : ∃ X, X = Y1.drew ∧ Below Y1.heap.size Y1 X := ⟨_, rfl, (Below.refl _ _).drew⟩
    rw [← eX] at hHeld ⊢
    replace k_r := bk bc k_r
    replace k_q := bk bc k_q
    replace bw := bst bc bw
    clear eX bc
    refine takx (i := 0) (D := 8) (v := .agg #[.int .i64 a, .int .i64 b, .int .i64 c, .int .i64 d]) rfl rfl (by kernel_rfl) (by kernel_rfl) (by kernel_rfl) (fun _ _ _ h => h) (Or.inl ⟨by rfl, fun W hSw => by (try dsimp only at hSw); go_simp⟩) (by assumption) ?_
    (try simp only [List.setIfInBounds_toArray, List.set_cons_zero, List.set_cons_succ])
    refine wpAnyH_ready (rs := [1]) (by kernel_rfl) (by simp) ?_
    refine (AllReadyH.cons rfl (fun K hK => ?_) AllReadyH.nil)
    go_simp
    refine (fine_no a b c d ha hb hc hd HF.out _).mono ?_
    rintro e X3 ⟨rfl, bc⟩
    refine hK.out _ _ ⟨ck bc hHeld.1, ck bc hHeld.2.1, ck bc hHeld.2.2.1, ck bc hHeld.2.2.2.1, ck bc hHeld.2.2.2.2.1, ck bc hHeld.2.2.2.2.2.1, ck bc hHeld.2.2.2.2.2.2.1, ck bc hHeld.2.2.2.2.2.2.2⟩ (fun hHeld => ?_)
    clear hK K
    (try simp only [List.setIfInBounds_toArray, List.set_cons_zero, List.set_cons_succ])
    replace k_r := bk bc k_r
    replace k_q := bk bc k_q
    replace bw := bst bc bw
    clear bc
    refine takx (i := 2) (D := 10) (v := .bool true) rfl rfl (by kernel_rfl) (by kernel_rfl) (by kernel_rfl) (fun _ _ _ h => h) (Or.inl ⟨by rfl, fun W hSw => by (try dsimp only at hSw); go_simp⟩) (by assumption) ?_
    (try simp only [List.setIfInBounds_toArray, List.set_cons_zero, List.set_cons_succ])
    refine takx (i := 3) (D := 11) (v := .bool true) rfl rfl (by kernel_rfl) (by kernel_rfl) (by kernel_rfl) (fun _ _ _ h => h) (Or.inl ⟨by rfl, fun W hSw => by (try dsimp only at hSw); go_simp⟩) (by assumption) ?_
    (try simp only [List.setIfInBounds_toArray, List.set_cons_zero, List.set_cons_succ])
    refine takx (i := 4) (D := 12) (v := undef) rfl rfl (by kernel_rfl) (by kernel_rfl) (by kernel_rfl) (fun _ _ _ h => h) (Or.inr ⟨by rfl, rfl⟩) (by assumption) ?_
    (try simp only [List.setIfInBounds_toArray, List.set_cons_zero, List.set_cons_succ])
    refine takx (i := 5) (D := 13) (v := undef) rfl rfl (by kernel_rfl) (by kernel_rfl) (by kernel_rfl) (fun _ _ _ h => h) (Or.inr ⟨by rfl, rfl⟩) (by assumption) ?_
    (try simp only [List.setIfInBounds_toArray, List.set_cons_zero, List.set_cons_succ])
    refine takx (i := 6) (D := 14) (v := undef) rfl rfl (by kernel_rfl) (by kernel_rfl) (by kernel_rfl) (fun _ _ _ h => h) (Or.inr ⟨by rfl, rfl⟩) (by assumption) ?_
    (try simp only [List.setIfInBounds_toArray, List.set_cons_zero, List.set_cons_succ])
    refine takx (i := 7) (D := 15) (v := undef) rfl rfl (by kernel_rfl) (by kernel_rfl) (by kernel_rfl) (fun _ _ _ h => h) (Or.inr ⟨by rfl, rfl⟩) (by assumption) ?_
    (try simp only [List.setIfInBounds_toArray, List.set_cons_zero, List.set_cons_succ])
    refine takx (i := 8) (D := 16) (v := undef) rfl rfl (by kernel_rfl) (by kernel_rfl) (by kernel_rfl) (fun _ _ _ h => h) (Or.inr ⟨by rfl, rfl⟩) (by assumption) ?_
    (try simp only [List.setIfInBounds_toArray, List.set_cons_zero, List.set_cons_succ])
    refine takx (i := 9) (D := 17) (v := undef) rfl rfl (by kernel_rfl) (by kernel_rfl) (by kernel_rfl) (fun _ _ _ h => h) (Or.inr ⟨by rfl, rfl⟩) (by assumption) ?_
    (try simp only [List.setIfInBounds_toArray, List.set_cons_zero, List.set_cons_succ])
    refine takx (i := 10) (D := 18) (v := undef) rfl rfl (by kernel_rfl) (by kernel_rfl) (by kernel_rfl) (fun _ _ _ h => h) (Or.inr ⟨by rfl, rfl⟩) (by assumption) ?_
    (try simp only [List.setIfInBounds_toArray, List.set_cons_zero, List.set_cons_succ])
    refine takx (i := 11) (D := 19) (v := undef) rfl rfl (by kernel_rfl) (by kernel_rfl) (by kernel_rfl) (fun _ _ _ h => h) (Or.inr ⟨by rfl, rfl⟩) (by assumption) ?_
    (try simp only [List.setIfInBounds_toArray, List.set_cons_zero, List.set_cons_succ])
    refine takx (i := 12) (D := 20) (v := undef) rfl rfl (by kernel_rfl) (by kernel_rfl) (by kernel_rfl) (fun _ _ _ h => h) (Or.inr ⟨by rfl, rfl⟩) (by assumption) ?_
    (try simp only [List.setIfInBounds_toArray, List.set_cons_zero, List.set_cons_succ])
    refine takx (i := 13) (D := 21) (v := undef) rfl rfl (by kernel_rfl) (by kernel_rfl) (by kernel_rfl) (fun _ _ _ h => h) (Or.inr ⟨by rfl, rfl⟩) (by assumption) ?_
    (try simp only [List.setIfInBounds_toArray, List.set_cons_zero, List.set_cons_succ])
    refine takx (i := 14) (D := 22) (v := undef) rfl rfl (by kernel_rfl) (by kernel_rfl) (by kernel_rfl) (fun _ _ _ h => h) (Or.inr ⟨by rfl, rfl⟩) (by assumption) ?_
    (try simp only [List.setIfInBounds_toArray, List.set_cons_zero, List.set_cons_succ])
    refine takx (i := 15) (D := 23) (v := undef) rfl rfl (by kernel_rfl) (by kernel_rfl) (by kernel_rfl) (fun _ _ _ h => h) (Or.inr ⟨by rfl, rfl⟩) (by assumption) ?_
    (try simp only [List.setIfInBounds_toArray, List.set_cons_zero, List.set_cons_succ])
    refine takx (i := 16) (D := 24) (v := undef) rfl rfl (by kernel_rfl) (by kernel_rfl) (by kernel_rfl) (fun _ _ _ h => h) (Or.inr ⟨by rfl, rfl⟩) (by assumption) ?_
    (try simp only [List.setIfInBounds_toArray, List.set_cons_zero, List.set_cons_succ])
    refine takx (i := 17) (D := 25) (v := undef) rfl rfl (by kernel_rfl) (by kernel_rfl) (by kernel_rfl) (fun _ _ _ h => h) (Or.inr ⟨by rfl, rfl⟩) (by assumption) ?_
    (try simp only [List.setIfInBounds_toArray, List.set_cons_zero, List.set_cons_succ])
    refine takx (i := 18) (D := 26) (v := .bool true) rfl rfl (by kernel_rfl) (by kernel_rfl) (by kernel_rfl) (fun _ _ _ h => h) (Or.inl ⟨by rfl, fun W hSw => by (try dsimp only at hSw); go_simp⟩) (by assumption) ?_
    (try simp only [List.setIfInBounds_toArray, List.set_cons_zero, List.set_cons_succ])
    refine takx (i := 19) (D := 4) (v := .bool true) rfl rfl (by kernel_rfl) (by kernel_rfl) (by kernel_rfl) (fun _ _ _ h => h) (Or.inl ⟨by rfl, fun W hSw => by (try dsimp only at hSw); go_simp⟩) (by assumption) ?_
    (try simp only [List.setIfInBounds_toArray, List.set_cons_zero, List.set_cons_succ])
    refine wpAnyH_done (by kernel_rfl) ?_ _
    clear hHeld
    go_wp2
    go_ret
    exact ⟨rfl, bw⟩
  obtain ⟨h3, h4, h5, h6, M, hM⟩ := fine_area hf
  obtain ⟨N, hN⟩ : ∃ N : Nat, 4 * (c - a) * (d - b) = N := ⟨4 * M, by rw [Int.mul_assoc, hM]; omega⟩
  have HF := Lib.hid hf
  have HN := Lib.hid hN
  have HM := Lib.hid hM
  clear hf hN hM
  have HWH := Lib.hid (show (c - a) * (d - b) = (((c - a).toNat * (d - b).toNat : Nat) : Int) by rw [Int.natCast_mul, Int.toNat_of_nonneg h3, Int.toNat_of_nonneg h5])
  have hbb : ∀ B : Bool, (B == B) = true := fun B => by cases B <;> rfl
  go_enter Try.func15, Try.ntmps15
  go_wp2_with fail
  refine (toRect4 a b c d _).mono ?_
  rintro e w1 ⟨rfl, bc⟩
  have bw := bst bc (bsa (Below.refl _ _))
  have k_r : w1.heap[w.heap.size]? = some (.cells #[.int .i64 a, .int .i64 b, .int .i64 c, .int .i64 d] 23 (0, 0)) := by have := bk bc (heap_alloc_new w _); simpa using this
  clear bc
  go_upto_region 2 with fail
  obtain ⟨Y1, g_q, eY, eg⟩ : ∃ Y g, Y = w1.alloc (.cells #[.int .i64 a, .int .i64 b, .int .i64 c, .int .i64 d] 25) ∧ g = w1.heap.size := ⟨_, _, rfl, rfl⟩
  rw [← eY, ← eg]
  have bc : Below w1.heap.size w1 Y1 := by rw [eY]; exact (Below.refl _ _).alloc (Nat.le_refl _) _
  have k_q : Y1.heap[g_q]? = some (.cells #[.int .i64 a, .int .i64 b, .int .i64 c, .int .i64 d] 25 (0, 0)) := by rw [eY, eg]; exact heap_alloc_new w1 _
  replace k_r := bk bc k_r
  replace bw := bst bc bw
  clear bc eY eg
  refine wp_region_held_drew (S := fun w' => w'.cell? ⟨w.heap.size, 0, none⟩ = some (.int .i64 a) ∧ w'.cell? ⟨w.heap.size, 1, none⟩ = some (.int .i64 b) ∧ w'.cell? ⟨w.heap.size, 2, none⟩ = some (.int .i64 c) ∧ w'.cell? ⟨w.heap.size, 3, none⟩ = some (.int .i64 d) ∧ w'.cell? ⟨g_q, 0, none⟩ = some (.int .i64 a) ∧ w'.cell? ⟨g_q, 1, none⟩ = some (.int .i64 b) ∧ w'.cell? ⟨g_q, 2, none⟩ = some (.int .i64 c) ∧ w'.cell? ⟨g_q, 3, none⟩ = some (.int .i64 d)) (by kernel_rfl) ⟨(q4c k_r).1.1, (q4c k_r).1.2.1, (q4c k_r).1.2.2.1, (q4c k_r).1.2.2.2, (q4c k_q).1.1, (q4c k_q).1.2.1, (q4c k_q).1.2.2.1, (q4c k_q).1.2.2.2⟩ ?_
  intro hHeld
  obtain ⟨X2, eX, bc⟩ : ∃ X, X = Y1.drew ∧ Below Y1.heap.size Y1 X := ⟨_, rfl, (Below.refl _ _).drew⟩
  rw [← eX] at hHeld ⊢
  replace k_r := bk bc k_r
  replace k_q := bk bc k_q
  replace bw := bst bc bw
  clear eX bc
  refine takx (i := 0) (D := 8) (v := .agg #[.int .i64 a, .int .i64 b, .int .i64 c, .int .i64 d]) rfl rfl (by kernel_rfl) (by kernel_rfl) (by kernel_rfl) (fun _ _ _ h => h) (Or.inl ⟨by rfl, fun W hSw => by (try dsimp only at hSw); go_simp⟩) (by assumption) ?_
  (try simp only [List.setIfInBounds_toArray, List.set_cons_zero, List.set_cons_succ])
  refine wpAnyH_ready (rs := [1]) (by kernel_rfl) (by simp) ?_
  refine (AllReadyH.cons rfl (fun K hK => ?_) AllReadyH.nil)
  go_simp
  refine (fine_yes a b c d HF.out _).mono ?_
  rintro e X3 ⟨rfl, bc⟩
  refine hK.out _ _ ⟨ck bc hHeld.1, ck bc hHeld.2.1, ck bc hHeld.2.2.1, ck bc hHeld.2.2.2.1, ck bc hHeld.2.2.2.2.1, ck bc hHeld.2.2.2.2.2.1, ck bc hHeld.2.2.2.2.2.2.1, ck bc hHeld.2.2.2.2.2.2.2⟩ (fun hHeld => ?_)
  clear hK K
  (try simp only [List.setIfInBounds_toArray, List.set_cons_zero, List.set_cons_succ])
  replace k_r := bk bc k_r
  replace k_q := bk bc k_q
  replace bw := bst bc bw
  clear bc
  refine takx (i := 2) (D := 10) (v := .bool false) rfl rfl (by kernel_rfl) (by kernel_rfl) (by kernel_rfl) (fun _ _ _ h => h) (Or.inl ⟨by rfl, fun W hSw => by (try dsimp only at hSw); go_simp⟩) (by assumption) ?_
  (try simp only [List.setIfInBounds_toArray, List.set_cons_zero, List.set_cons_succ])
  refine takx (i := 3) (D := 11) (v := .bool false) rfl rfl (by kernel_rfl) (by kernel_rfl) (by kernel_rfl) (fun _ _ _ h => h) (Or.inl ⟨by rfl, fun W hSw => by (try dsimp only at hSw); go_simp⟩) (by assumption) ?_
  (try simp only [List.setIfInBounds_toArray, List.set_cons_zero, List.set_cons_succ])
  refine takx (i := 4) (D := 12) (v := .agg #[.int .i64 a, .int .i64 b, .int .i64 c, .int .i64 d]) rfl rfl (by kernel_rfl) (by kernel_rfl) (by kernel_rfl) (fun _ _ _ h => h) (Or.inl ⟨by rfl, fun W hSw => by (try dsimp only at hSw); go_simp⟩) (by assumption) ?_
  (try simp only [List.setIfInBounds_toArray, List.set_cons_zero, List.set_cons_succ])
  refine takx (i := 5) (D := 13) (v := .slice Z n cp) rfl rfl (by kernel_rfl) (by kernel_rfl) (by kernel_rfl) (fun _ _ _ h => h) (Or.inl ⟨by rfl, fun W hSw => by (try dsimp only at hSw); go_simp⟩) (by assumption) ?_
  (try simp only [List.setIfInBounds_toArray, List.set_cons_zero, List.set_cons_succ])
  refine takx (i := 7) (D := 15) (v := .agg #[.int .i64 a, .int .i64 b, .int .i64 c, .int .i64 d]) rfl rfl (by kernel_rfl) (by kernel_rfl) (by kernel_rfl) (fun _ _ _ h => h) (Or.inl ⟨by rfl, fun W hSw => by (try dsimp only at hSw); go_simp⟩) (by assumption) ?_
  (try simp only [List.setIfInBounds_toArray, List.set_cons_zero, List.set_cons_succ])
  refine takx (i := 8) (D := 16) (v := .slice Z n cp) rfl rfl (by kernel_rfl) (by kernel_rfl) (by kernel_rfl) (fun _ _ _ h => h) (Or.inl ⟨by rfl, fun W hSw => by (try dsimp only at hSw); go_simp⟩) (by assumption) ?_
  (try simp only [List.setIfInBounds_toArray, List.set_cons_zero, List.set_cons_succ])
  refine wpAnyH_ready (rs := [6]) (by kernel_rfl) (by simp) ?_
  refine (AllReadyH.cons rfl (fun K hK => ?_) AllReadyH.nil)
  go_simp
  refine (nrgbaOpaque_any a b c d N h3 h4 h5 h6 HN.out (c - a).toNat (d - b).toNat (by omega) (by omega) HF.out.2.2.1 HF.out.2.2.2.1 n cp Z zs _ ((HR.out.below bw).more bw.size)).mono ?_
  rintro e X4 ⟨rfl, bc⟩
  refine hK.out _ _ ⟨ck bc hHeld.1, ck bc hHeld.2.1, ck bc hHeld.2.2.1, ck bc hHeld.2.2.2.1, ck bc hHeld.2.2.2.2.1, ck bc hHeld.2.2.2.2.2.1, ck bc hHeld.2.2.2.2.2.2.1, ck bc hHeld.2.2.2.2.2.2.2⟩ (fun hHeld => ?_)
  clear hK K
  (try simp only [List.setIfInBounds_toArray, List.set_cons_zero, List.set_cons_succ])
  replace k_r := bk bc k_r
  replace k_q := bk bc k_q
  replace bw := bst bc bw
  clear bc
  refine wpAnyH_ready (rs := [9]) (by kernel_rfl) (by simp) ?_
  refine (AllReadyH.cons rfl (fun K hK => ?_) AllReadyH.nil)
  go_simp
  refine (snrgbaOpaque_any a b c d N h3 h4 h5 h6 HN.out ((c - a).toNat * (d - b).toNat) HWH.out n cp Z zs _ ((HR.out.below bw).more bw.size)).mono ?_
  rintro e X5 ⟨rfl, bc⟩
  refine hK.out _ _ ⟨ck bc hHeld.1, ck bc hHeld.2.1, ck bc hHeld.2.2.1, ck bc hHeld.2.2.2.1, ck bc hHeld.2.2.2.2.1, ck bc hHeld.2.2.2.2.2.1, ck bc hHeld.2.2.2.2.2.2.1, ck bc hHeld.2.2.2.2.2.2.2⟩ (fun hHeld => ?_)
  clear hK K
  (try simp only [List.setIfInBounds_toArray, List.set_cons_zero, List.set_cons_succ])
  replace k_r := bk bc k_r
  replace k_q := bk bc k_q
  replace bw := bst bc bw
  clear bc
  refine takx (i := 10) (D := 18) (v := .bool true) rfl rfl (by kernel_rfl) (by kernel_rfl) (by kernel_rfl) (fun _ _ _ h => h) (Or.inl ⟨by rfl, fun W hSw => by (try dsimp only at hSw); go_simp⟩) (by assumption) ?_
  (try simp only [List.setIfInBounds_toArray, List.set_cons_zero, List.set_cons_succ])
  refine takx (i := 11) (D := 19) (v := .bool true) rfl rfl (by kernel_rfl) (by kernel_rfl) (by kernel_rfl) (fun _ _ _ h => h) (Or.inl ⟨by rfl, fun W hSw => by (try dsimp only at hSw); go_simp⟩) (by assumption) ?_
  (try simp only [List.setIfInBounds_toArray, List.set_cons_zero, List.set_cons_succ])
  refine takx (i := 12) (D := 20) (v := .agg #[.int .i64 a, .int .i64 b, .int .i64 c, .int .i64 d]) rfl rfl (by kernel_rfl) (by kernel_rfl) (by kernel_rfl) (fun _ _ _ h => h) (Or.inl ⟨by rfl, fun W hSw => by (try dsimp only at hSw); go_simp⟩) (by assumption) ?_
  (try simp only [List.setIfInBounds_toArray, List.set_cons_zero, List.set_cons_succ])
  refine takx (i := 15) (D := 23) (v := .agg #[.int .i64 a, .int .i64 b, .int .i64 c, .int .i64 d]) rfl rfl (by kernel_rfl) (by kernel_rfl) (by kernel_rfl) (fun _ _ _ h => h) (Or.inl ⟨by rfl, fun W hSw => by (try dsimp only at hSw); go_simp⟩) (by assumption) ?_
  (try simp only [List.setIfInBounds_toArray, List.set_cons_zero, List.set_cons_succ])
  refine wpAnyH_ready (rs := [13]) (by kernel_rfl) (by simp) ?_
  refine (AllReadyH.cons rfl (fun K hK => ?_) AllReadyH.nil)
  go_simp
  refine (nrgbaNew_any a b c d N h3 h4 h5 h6 HN.out _).mono ?_
  rintro e X6 ⟨A1, cp1, rfl, r1, lo1, bc⟩
  refine hK.out _ _ ⟨ck bc hHeld.1, ck bc hHeld.2.1, ck bc hHeld.2.2.1, ck bc hHeld.2.2.2.1, ck bc hHeld.2.2.2.2.1, ck bc hHeld.2.2.2.2.2.1, ck bc hHeld.2.2.2.2.2.2.1, ck bc hHeld.2.2.2.2.2.2.2⟩ (fun hHeld => ?_)
  clear hK K
  (try simp only [List.setIfInBounds_toArray, List.set_cons_zero, List.set_cons_succ])
  replace k_r := bk bc k_r
  replace k_q := bk bc k_q
  replace bw := bst bc bw
  clear bc
  refine takx (i := 14) (D := 22) (v := .agg #[.int .i64 a, .int .i64 b, .int .i64 c, .int .i64 d]) rfl rfl (by kernel_rfl) (by kernel_rfl) (by kernel_rfl) (fun _ _ _ h => h) (Or.inl ⟨by rfl, fun W hSw => by (try dsimp only at hSw); go_simp⟩) (by assumption) ?_
  (try simp only [List.setIfInBounds_toArray, List.set_cons_zero, List.set_cons_succ])
  refine takx (i := 16) (D := 24) (v := .bool true) rfl rfl (by kernel_rfl) (by kernel_rfl) (by kernel_rfl) (fun _ _ _ h => h) (Or.inl ⟨by rfl, fun W hSw => by (try dsimp only at hSw); go_simp⟩) (by assumption) ?_
  (try simp only [List.setIfInBounds_toArray, List.set_cons_zero, List.set_cons_succ])
  refine takx (i := 17) (D := 25) (v := .bool true) rfl rfl (by kernel_rfl) (by kernel_rfl) (by kernel_rfl) (fun _ _ _ h => h) (Or.inl ⟨by rfl, fun W hSw => by (try dsimp only at hSw); go_simp⟩) (by assumption) ?_
  (try simp only [List.setIfInBounds_toArray, List.set_cons_zero, List.set_cons_succ])
  refine takx (i := 18) (D := 26) (v := .bool true) rfl rfl (by kernel_rfl) (by kernel_rfl) (by kernel_rfl) (fun _ _ _ h => h) (Or.inl ⟨by rfl, fun W hSw => by (try dsimp only at hSw); go_simp⟩) (by assumption) ?_
  (try simp only [List.setIfInBounds_toArray, List.set_cons_zero, List.set_cons_succ])
  refine takx (i := 19) (D := 4) (v := .bool true) rfl rfl (by kernel_rfl) (by kernel_rfl) (by kernel_rfl) (fun _ _ _ h => h) (Or.inl ⟨by rfl, fun W hSw => by (try dsimp only at hSw); go_simp⟩) (by assumption) ?_
  (try simp only [List.setIfInBounds_toArray, List.set_cons_zero, List.set_cons_succ])
  refine wpAnyH_done (by kernel_rfl) ?_ _
  clear hHeld
  go_wp2
  go_ret
  exact ⟨rfl, bw⟩

end Go.Proofs.Ytkhofahobcegiaa

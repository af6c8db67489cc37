/-
  The walk of the law FnNRGBASub. No condition.
-/
import Derived.Test.YtpllecddmpdaiaaNSB
import Derived.Test.YtpllecddmpdaiaaNH1
import Derived.Test.YtpllecddmpdaiaaNS3
namespace Go.Proofs.Ytpllecddmpdaiaa
open Go.ChangeShapes Go.WideShapes Go.ChangeAt Go.RowKit
set_option linter.unusedVariables false
set_option linter.unusedSimpArgs false

set_option maxRecDepth 100000 in
set_option maxHeartbeats 2000000 in
theorem fnNRGBASub_walk (w : World) (q : Q4) (hq : q.ok) (Z : Option Addr) (n cp : Nat) (zs : List Int) (hr : Rd w w.heap.size Z n zs) (s : Q4) (hs : s.ok) :
    Calls Try.prog 3 #[q.val, .slice Z n cp, s.val] w fun e w' => e = .returned (.bool true) ∧ Below w.heap.size w w' := by
  obtain ⟨a, b, c, d⟩ := q
  obtain ⟨ha, hb, hc, hd⟩ := hq
  show Calls Try.prog 3 #[.agg #[.int .i64 a, .int .i64 b, .int .i64 c, .int .i64 d], .slice Z n cp, .agg #[.int .i64 s.a, .int .i64 s.b, .int .i64 s.c, .int .i64 s.d]] w _
  have hrs := rect_same a b c d
  have hrd := rect_diff a b c d
  have hp0 := fun st v => pfld0 a b c d st v
  have hp2 := fun st A n cp => pfld2 a b c d st A n cp
  have HR := Lib.hid hr
  clear hr
  by_cases hf : Fine a b c d
  case neg =>
    have HF := Lib.hid hf
    clear hf
    cases hc0 : com ⟨a, b, c, d⟩ s with
    | none =>
      have HC := Lib.hid hc0
      clear hc0
      go_enter Try.func3, Try.ntmps3
      go_wp2_with fail
      refine (toRect4 a b c d _).mono ?_
      rintro e w1 ⟨rfl, bc⟩
      have bw := bst bc (bsa (bsa (Below.refl _ _)))
      have k_r : w1.heap[w.heap.size]? = some (.cells #[.int .i64 a, .int .i64 b, .int .i64 c, .int .i64 d] 23 (0, 0)) := by have := bk bc (bka (heap_alloc_new w _)); simpa using this
      have k_s : w1.heap[w.heap.size + 1]? = some (.cells #[.int .i64 s.a, .int .i64 s.b, .int .i64 s.c, .int .i64 s.d] 23 (0, 0)) := by have := bk bc (heap_alloc_new (w.alloc (.cells #[.int .i64 a, .int .i64 b, .int .i64 c, .int .i64 d] 23)) _); simpa using this
      clear bc
      go_upto_region 2 with fail
      obtain ⟨Y1, g_q, eY, eg⟩ : ∃ Y g, Y = w1.alloc (.cells #[.int .i64 a, .int .i64 b, .int .i64 c, .int .i64 d] 25) ∧ g = w1.heap.size := ⟨_, _, rfl, rfl⟩
      rw [← eY, ← eg]
      have bc : Below w1.heap.size w1 Y1 := by rw [eY]; exact (Below.refl _ _).alloc (Nat.le_refl _) _
      have k_q : Y1.heap[g_q]? = some (.cells #[.int .i64 a, .int .i64 b, .int .i64 c, .int .i64 d] 25 (0, 0)) := by rw [eY, eg]; exact heap_alloc_new w1 _
      replace k_r := bk bc k_r
      replace k_s := bk bc k_s
      replace bw := bst bc bw
      clear bc eY eg
      go_cut [8, 9] (fun s8 s9 wx => ∃ (g_both : Nat), s8 = .pointer (some ⟨g_both, 0, none⟩) ∧ s9 = .bool false ∧ wx.heap[g_both]? = some (.cells #[.int .i64 0, .int .i64 0, .int .i64 0, .int .i64 0] 25 (0, 0)) ∧ wx.heap[w.heap.size]? = some (.cells #[.int .i64 a, .int .i64 b, .int .i64 c, .int .i64 d] 23 (0, 0)) ∧ wx.heap[w.heap.size + 1]? = some (.cells #[.int .i64 s.a, .int .i64 s.b, .int .i64 s.c, .int .i64 s.d] 23 (0, 0)) ∧ wx.heap[g_q]? = some (.cells #[.int .i64 a, .int .i64 b, .int .i64 c, .int .i64 d] 25 (0, 0)) ∧ Hid (Below w.heap.size w wx))
      case first =>
        refine wp_region_held_drew (S := fun w' => w'.cell? ⟨g_q, 0, none⟩ = some (.int .i64 a) ∧ w'.cell? ⟨g_q, 1, none⟩ = some (.int .i64 b) ∧ w'.cell? ⟨g_q, 2, none⟩ = some (.int .i64 c) ∧ w'.cell? ⟨g_q, 3, none⟩ = some (.int .i64 d) ∧ w'.cell? ⟨w.heap.size + 1, 0, none⟩ = some (.int .i64 s.a) ∧ w'.cell? ⟨w.heap.size + 1, 1, none⟩ = some (.int .i64 s.b) ∧ w'.cell? ⟨w.heap.size + 1, 2, none⟩ = some (.int .i64 s.c) ∧ w'.cell? ⟨w.heap.size + 1, 3, none⟩ = some (.int .i64 s.d)) (by kernel_rfl) ⟨(q4c k_q).1.1, (q4c k_q).1.2.1, (q4c k_q).1.2.2.1, (q4c k_q).1.2.2.2, (q4c k_s).1.1, (q4c k_s).1.2.1, (q4c k_s).1.2.2.1, (q4c k_s).1.2.2.2⟩ ?_
        intro hHeld
        obtain ⟨X2, eX, bc⟩ : ∃ X, X = Y1.drew ∧ Below Y1.heap.size Y1 X := ⟨_, rfl, (Below.refl _ _).drew⟩
        rw [← eX] at hHeld ⊢
        replace k_r := bk bc k_r
        replace k_s := bk bc k_s
        replace k_q := bk bc k_q
        replace bw := bst bc bw
        clear eX bc
        refine takx (i := 0) (D := 18) (v := .agg #[.int .i64 a, .int .i64 b, .int .i64 c, .int .i64 d]) rfl rfl (by kernel_rfl) (by kernel_rfl) (by kernel_rfl) (fun _ _ _ h => h) (Or.inl ⟨by rfl, fun W hSw => by (try dsimp only at hSw); go_simp⟩) (by assumption) ?_
        (try simp only [List.setIfInBounds_toArray, List.set_cons_zero, List.set_cons_succ])
        refine takx (i := 1) (D := 19) (v := .agg #[.int .i64 s.a, .int .i64 s.b, .int .i64 s.c, .int .i64 s.d]) rfl rfl (by kernel_rfl) (by kernel_rfl) (by kernel_rfl) (fun _ _ _ h => h) (Or.inl ⟨by rfl, fun W hSw => by (try dsimp only at hSw); go_simp⟩) (by assumption) ?_
        (try simp only [List.setIfInBounds_toArray, List.set_cons_zero, List.set_cons_succ])
        refine wpAnyH_ready (rs := [2, 7]) (by kernel_rfl) (by simp) ?_
        refine (AllReadyH.cons rfl (fun K hK => ?_) (AllReadyH.cons rfl (fun K hK => ?_) AllReadyH.nil))
        · go_simp
          refine (toRect4 s.a s.b s.c s.d _).mono ?_
          rintro e X3 ⟨rfl, bc⟩
          refine hK.out _ _ ⟨ck bc hHeld.1, ck bc hHeld.2.1, ck bc hHeld.2.2.1, ck bc hHeld.2.2.2.1, ck bc hHeld.2.2.2.2.1, ck bc hHeld.2.2.2.2.2.1, ck bc hHeld.2.2.2.2.2.2.1, ck bc hHeld.2.2.2.2.2.2.2⟩ (fun hHeld => ?_)
          clear hK K
          (try simp only [List.setIfInBounds_toArray, List.set_cons_zero, List.set_cons_succ])
          replace k_r := bk bc k_r
          replace k_s := bk bc k_s
          replace k_q := bk bc k_q
          replace bw := bst bc bw
          clear bc
          refine wpAnyH_ready (rs := [3, 7]) (by kernel_rfl) (by simp) ?_
          refine (AllReadyH.cons rfl (fun K hK => ?_) (AllReadyH.cons rfl (fun K hK => ?_) AllReadyH.nil))
          · go_simp
            refine (common_none ⟨a, b, c, d⟩ s HC.out _).mono ?_
            rintro e X4 ⟨rfl, bc⟩
            refine hK.out _ _ ⟨ck bc hHeld.1, ck bc hHeld.2.1, ck bc hHeld.2.2.1, ck bc hHeld.2.2.2.1, ck bc hHeld.2.2.2.2.1, ck bc hHeld.2.2.2.2.2.1, ck bc hHeld.2.2.2.2.2.2.1, ck bc hHeld.2.2.2.2.2.2.2⟩ (fun hHeld => ?_)
            clear hK K
            (try simp only [List.setIfInBounds_toArray, List.set_cons_zero, List.set_cons_succ])
            replace k_r := bk bc k_r
            replace k_s := bk bc k_s
            replace k_q := bk bc k_q
            replace bw := bst bc bw
            clear bc
            refine takx (i := 4) (D := 17) (v := .tuple #[.agg #[.int .i64 0, .int .i64 0, .int .i64 0, .int .i64 0], .bool false]) rfl rfl (by kernel_rfl) (by kernel_rfl) (by kernel_rfl) (fun _ _ _ h => h) (Or.inl ⟨by rfl, fun W hSw => by (try dsimp only at hSw); go_simp⟩) (by assumption) ?_
            (try simp only [List.setIfInBounds_toArray, List.set_cons_zero, List.set_cons_succ])
            refine takx (i := 5) (D := 22) (v := .agg #[.int .i64 0, .int .i64 0, .int .i64 0, .int .i64 0]) rfl rfl (by kernel_rfl) (by kernel_rfl) (by kernel_rfl) (fun _ _ _ h => h) (Or.inl ⟨by rfl, fun W hSw => by (try dsimp only at hSw); go_simp⟩) (by assumption) ?_
            (try simp only [List.setIfInBounds_toArray, List.set_cons_zero, List.set_cons_succ])
            refine takx (i := 6) (D := 23) (v := .bool false) rfl rfl (by kernel_rfl) (by kernel_rfl) (by kernel_rfl) (fun _ _ _ h => h) (Or.inl ⟨by rfl, fun W hSw => by (try dsimp only at hSw); go_simp⟩) (by assumption) ?_
            (try simp only [List.setIfInBounds_toArray, List.set_cons_zero, List.set_cons_succ])
            refine wpAnyH_ready (rs := [7]) (by kernel_rfl) (by simp) ?_
            refine (AllReadyH.cons rfl (fun K hK => ?_) AllReadyH.nil)
            go_simp
            refine hK.out _ _ ⟨cka hHeld.1, cka hHeld.2.1, cka hHeld.2.2.1, cka hHeld.2.2.2.1, cka hHeld.2.2.2.2.1, cka hHeld.2.2.2.2.2.1, cka hHeld.2.2.2.2.2.2.1, cka hHeld.2.2.2.2.2.2.2⟩ (fun hHeld => ?_)
            clear hK K
            (try simp only [List.setIfInBounds_toArray, List.set_cons_zero, List.set_cons_succ])
            obtain ⟨X5, g5, eY, eg⟩ : ∃ Y g, Y = X4.alloc (.cells #[.int .i64 0, .int .i64 0, .int .i64 0, .int .i64 0] 25) ∧ g = X4.heap.size := ⟨_, _, rfl, rfl⟩
            rw [← eY, ← eg]
            rw [← eY] at hHeld
            have bc : Below X4.heap.size X4 X5 := by rw [eY]; exact (Below.refl _ _).alloc (Nat.le_refl _) _
            have k_n8 : X5.heap[g5]? = some (.cells #[.int .i64 0, .int .i64 0, .int .i64 0, .int .i64 0] 25 (0, 0)) := by rw [eY, eg]; exact heap_alloc_new X4 _
            have lo_n8 : w.heap.size ≤ g5 := by rw [eg]; exact bw.size
            have ne_r_n8 : ¬ w.heap.size = g5 := ne_new k_r eg
            have ne_s_n8 : ¬ w.heap.size + 1 = g5 := ne_new k_s eg
            have ne_q_n8 : ¬ g_q = g5 := ne_new k_q eg
            replace k_r := bk bc k_r
            replace k_s := bk bc k_s
            replace k_q := bk bc k_q
            replace bw := bst bc bw
            clear bc eY eg
            refine wpAnyH_ready (rs := [8]) (by kernel_rfl) (by simp) ?_
            refine (AllReadyH.cons rfl (fun K hK => ?_) AllReadyH.nil)
            have qq := q4c k_n8
            go_simp
            clear qq
            refine hK.out _ _ ⟨(cks ne_q_n8 (cks ne_q_n8 (cks ne_q_n8 (cks ne_q_n8 hHeld.1)))), (cks ne_q_n8 (cks ne_q_n8 (cks ne_q_n8 (cks ne_q_n8 hHeld.2.1)))), (cks ne_q_n8 (cks ne_q_n8 (cks ne_q_n8 (cks ne_q_n8 hHeld.2.2.1)))), (cks ne_q_n8 (cks ne_q_n8 (cks ne_q_n8 (cks ne_q_n8 hHeld.2.2.2.1)))), (cks ne_s_n8 (cks ne_s_n8 (cks ne_s_n8 (cks ne_s_n8 hHeld.2.2.2.2.1)))), (cks ne_s_n8 (cks ne_s_n8 (cks ne_s_n8 (cks ne_s_n8 hHeld.2.2.2.2.2.1)))), (cks ne_s_n8 (cks ne_s_n8 (cks ne_s_n8 (cks ne_s_n8 hHeld.2.2.2.2.2.2.1)))), (cks ne_s_n8 (cks ne_s_n8 (cks ne_s_n8 (cks ne_s_n8 hHeld.2.2.2.2.2.2.2))))⟩ (fun hHeld => ?_)
            clear hK K
            (try simp only [List.setIfInBounds_toArray, List.set_cons_zero, List.set_cons_succ])
            obtain ⟨X6, eY⟩ : ∃ Y, Y = ((((X5.setCell ⟨g5, 0, none⟩ (.int .i64 0)).setCell ⟨g5, 1, none⟩ (.int .i64 0)).setCell ⟨g5, 2, none⟩ (.int .i64 0)).setCell ⟨g5, 3, none⟩ (.int .i64 0)) := ⟨_, rfl⟩
            rw [← eY] at hHeld ⊢
            replace k_r : X6.heap[w.heap.size]? = some (.cells #[.int .i64 a, .int .i64 b, .int .i64 c, .int .i64 d] 23 (0, 0)) := by rw [eY]; exact (bks ne_r_n8 (bks ne_r_n8 (bks ne_r_n8 (bks ne_r_n8 k_r))))
            replace k_s : X6.heap[w.heap.size + 1]? = some (.cells #[.int .i64 s.a, .int .i64 s.b, .int .i64 s.c, .int .i64 s.d] 23 (0, 0)) := by rw [eY]; exact (bks ne_s_n8 (bks ne_s_n8 (bks ne_s_n8 (bks ne_s_n8 k_s))))
            replace k_q : X6.heap[g_q]? = some (.cells #[.int .i64 a, .int .i64 b, .int .i64 c, .int .i64 d] 25 (0, 0)) := by rw [eY]; exact (bks ne_q_n8 (bks ne_q_n8 (bks ne_q_n8 (bks ne_q_n8 k_q))))
            replace bw : Below w.heap.size w X6 := by rw [eY]; exact (bss lo_n8 (bss lo_n8 (bss lo_n8 (bss lo_n8 bw))))
            replace k_n8 : X6.heap[g5]? = some (.cells #[.int .i64 0, .int .i64 0, .int .i64 0, .int .i64 0] 25 (0, 0)) := by rw [eY]; exact q4s k_n8
            clear eY
            refine takx (i := 9) (D := 9) (v := .bool false) rfl rfl (by kernel_rfl) (by kernel_rfl) (by kernel_rfl) (fun _ _ _ h => h) (Or.inl ⟨by rfl, fun W hSw => by (try dsimp only at hSw); go_simp⟩) (by assumption) ?_
            (try simp only [List.setIfInBounds_toArray, List.set_cons_zero, List.set_cons_succ])
            refine wpAnyH_done (by kernel_rfl) ?_ _
            go_wp2_with fail
            go_meet
            exact ⟨_, rfl, rfl, k_n8, k_r, k_s, k_q, bw⟩
          · go_simp
            refine hK.out _ _ ⟨cka hHeld.1, cka hHeld.2.1, cka hHeld.2.2.1, cka hHeld.2.2.2.1, cka hHeld.2.2.2.2.1, cka hHeld.2.2.2.2.2.1, cka hHeld.2.2.2.2.2.2.1, cka hHeld.2.2.2.2.2.2.2⟩ (fun hHeld => ?_)
            clear hK K
            (try simp only [List.setIfInBounds_toArray, List.set_cons_zero, List.set_cons_succ])
            obtain ⟨X7, g7, eY, eg⟩ : ∃ Y g, Y = X3.alloc (.cells #[.int .i64 0, .int .i64 0, .int .i64 0, .int .i64 0] 25) ∧ g = X3.heap.size := ⟨_, _, rfl, rfl⟩
            rw [← eY, ← eg]
            rw [← eY] at hHeld
            have bc : Below X3.heap.size X3 X7 := by rw [eY]; exact (Below.refl _ _).alloc (Nat.le_refl _) _
            have k_n8 : X7.heap[g7]? = some (.cells #[.int .i64 0, .int .i64 0, .int .i64 0, .int .i64 0] 25 (0, 0)) := by rw [eY, eg]; exact heap_alloc_new X3 _
            have lo_n8 : w.heap.size ≤ g7 := by rw [eg]; exact bw.size
            have ne_r_n8 : ¬ w.heap.size = g7 := ne_new k_r eg
            have ne_s_n8 : ¬ w.heap.size + 1 = g7 := ne_new k_s eg
            have ne_q_n8 : ¬ g_q = g7 := ne_new k_q eg
            replace k_r := bk bc k_r
            replace k_s := bk bc k_s
            replace k_q := bk bc k_q
            replace bw := bst bc bw
            clear bc eY eg
            refine wpAnyH_ready (rs := [3]) (by kernel_rfl) (by simp) ?_
            refine (AllReadyH.cons rfl (fun K hK => ?_) AllReadyH.nil)
            go_simp
            refine (common_none ⟨a, b, c, d⟩ s HC.out _).mono ?_
            rintro e X8 ⟨rfl, bc⟩
            refine hK.out _ _ ⟨ck bc hHeld.1, ck bc hHeld.2.1, ck bc hHeld.2.2.1, ck bc hHeld.2.2.2.1, ck bc hHeld.2.2.2.2.1, ck bc hHeld.2.2.2.2.2.1, ck bc hHeld.2.2.2.2.2.2.1, ck bc hHeld.2.2.2.2.2.2.2⟩ (fun hHeld => ?_)
            clear hK K
            (try simp only [List.setIfInBounds_toArray, List.set_cons_zero, List.set_cons_succ])
            replace k_r := bk bc k_r
            replace k_s := bk bc k_s
            replace k_q := bk bc k_q
            replace k_n8 := bk bc k_n8
            replace bw := bst bc bw
            clear bc
            refine takx (i := 4) (D := 17) (v := .tuple #[.agg #[.int .i64 0, .int .i64 0, .int .i64 0, .int .i64 0], .bool false]) rfl rfl (by kernel_rfl) (by kernel_rfl) (by kernel_rfl) (fun _ _ _ h => h) (Or.inl ⟨by rfl, fun W hSw => by (try dsimp only at hSw); go_simp⟩) (by assumption) ?_
            (try simp only [List.setIfInBounds_toArray, List.set_cons_zero, List.set_cons_succ])
            refine takx (i := 5) (D := 22) (v := .agg #[.int .i64 0, .int .i64 0, .int .i64 0, .int .i64 0]) rfl rfl (by kernel_rfl) (by kernel_rfl) (by kernel_rfl) (fun _ _ _ h => h) (Or.inl ⟨by rfl, fun W hSw => by (try dsimp only at hSw); go_simp⟩) (by assumption) ?_
            (try simp only [List.setIfInBounds_toArray, List.set_cons_zero, List.set_cons_succ])
            refine takx (i := 6) (D := 23) (v := .bool false) rfl rfl (by kernel_rfl) (by kernel_rfl) (by kernel_rfl) (fun _ _ _ h => h) (Or.inl ⟨by rfl, fun W hSw => by (try dsimp only at hSw); go_simp⟩) (by assumption) ?_
            (try simp only [List.setIfInBounds_toArray, List.set_cons_zero, List.set_cons_succ])
            refine wpAnyH_ready (rs := [8]) (by kernel_rfl) (by simp) ?_
            refine (AllReadyH.cons rfl (fun K hK => ?_) AllReadyH.nil)
            have qq := q4c k_n8
            go_simp
            clear qq
            refine hK.out _ _ ⟨(cks ne_q_n8 (cks ne_q_n8 (cks ne_q_n8 (cks ne_q_n8 hHeld.1)))), (cks ne_q_n8 (cks ne_q_n8 (cks ne_q_n8 (cks ne_q_n8 hHeld.2.1)))), (cks ne_q_n8 (cks ne_q_n8 (cks ne_q_n8 (cks ne_q_n8 hHeld.2.2.1)))), (cks ne_q_n8 (cks ne_q_n8 (cks ne_q_n8 (cks ne_q_n8 hHeld.2.2.2.1)))), (cks ne_s_n8 (cks ne_s_n8 (cks ne_s_n8 (cks ne_s_n8 hHeld.2.2.2.2.1)))), (cks ne_s_n8 (cks ne_s_n8 (cks ne_s_n8 (cks ne_s_n8 hHeld.2.2.2.2.2.1)))), (cks ne_s_n8 (cks ne_s_n8 (cks ne_s_n8 (cks ne_s_n8 hHeld.2.2.2.2.2.2.1)))), (cks ne_s_n8 (cks ne_s_n8 (cks ne_s_n8 (cks ne_s_n8 hHeld.2.2.2.2.2.2.2))))⟩ (fun hHeld => ?_)
            clear hK K
            (try simp only [List.setIfInBounds_toArray, List.set_cons_zero, List.set_cons_succ])
            obtain ⟨X9, eY⟩ : ∃ Y, Y = ((((X8.setCell ⟨g7, 0, none⟩ (.int .i64 0)).setCell ⟨g7, 1, none⟩ (.int .i64 0)).setCell ⟨g7, 2, none⟩ (.int .i64 0)).setCell ⟨g7, 3, none⟩ (.int .i64 0)) := ⟨_, rfl⟩
            rw [← eY] at hHeld ⊢
            replace k_r : X9.heap[w.heap.size]? = some (.cells #[.int .i64 a, .int .i64 b, .int .i64 c, .int .i64 d] 23 (0, 0)) := by rw [eY]; exact (bks ne_r_n8 (bks ne_r_n8 (bks ne_r_n8 (bks ne_r_n8 k_r))))
            replace k_s : X9.heap[w.heap.size + 1]? = some (.cells #[.int .i64 s.a, .int .i64 s.b, .int .i64 s.c, .int .i64 s.d] 23 (0, 0)) := by rw [eY]; exact (bks ne_s_n8 (bks ne_s_n8 (bks ne_s_n8 (bks ne_s_n8 k_s))))
            replace k_q : X9.heap[g_q]? = some (.cells #[.int .i64 a, .int .i64 b, .int .i64 c, .int .i64 d] 25 (0, 0)) := by rw [eY]; exact (bks ne_q_n8 (bks ne_q_n8 (bks ne_q_n8 (bks ne_q_n8 k_q))))
            replace bw : Below w.heap.size w X9 := by rw [eY]; exact (bss lo_n8 (bss lo_n8 (bss lo_n8 (bss lo_n8 bw))))
            replace k_n8 : X9.heap[g7]? = some (.cells #[.int .i64 0, .int .i64 0, .int .i64 0, .int .i64 0] 25 (0, 0)) := by rw [eY]; exact q4s k_n8
            clear eY
            refine takx (i := 9) (D := 9) (v := .bool false) rfl rfl (by kernel_rfl) (by kernel_rfl) (by kernel_rfl) (fun _ _ _ h => h) (Or.inl ⟨by rfl, fun W hSw => by (try dsimp only at hSw); go_simp⟩) (by assumption) ?_
            (try simp only [List.setIfInBounds_toArray, List.set_cons_zero, List.set_cons_succ])
            refine wpAnyH_done (by kernel_rfl) ?_ _
            go_wp2_with fail
            go_meet
            exact ⟨_, rfl, rfl, k_n8, k_r, k_s, k_q, bw⟩
        · go_simp
          refine hK.out _ _ ⟨cka hHeld.1, cka hHeld.2.1, cka hHeld.2.2.1, cka hHeld.2.2.2.1, cka hHeld.2.2.2.2.1, cka hHeld.2.2.2.2.2.1, cka hHeld.2.2.2.2.2.2.1, cka hHeld.2.2.2.2.2.2.2⟩ (fun hHeld => ?_)
          clear hK K
          (try simp only [List.setIfInBounds_toArray, List.set_cons_zero, List.set_cons_succ])
          obtain ⟨X10, g10, eY, eg⟩ : ∃ Y g, Y = X2.alloc (.cells #[.int .i64 0, .int .i64 0, .int .i64 0, .int .i64 0] 25) ∧ g = X2.heap.size := ⟨_, _, rfl, rfl⟩
          rw [← eY, ← eg]
          rw [← eY] at hHeld
          have bc : Below X2.heap.size X2 X10 := by rw [eY]; exact (Below.refl _ _).alloc (Nat.le_refl _) _
          have k_n8 : X10.heap[g10]? = some (.cells #[.int .i64 0, .int .i64 0, .int .i64 0, .int .i64 0] 25 (0, 0)) := by rw [eY, eg]; exact heap_alloc_new X2 _
          have lo_n8 : w.heap.size ≤ g10 := by rw [eg]; exact bw.size
          have ne_r_n8 : ¬ w.heap.size = g10 := ne_new k_r eg
          have ne_s_n8 : ¬ w.heap.size + 1 = g10 := ne_new k_s eg
          have ne_q_n8 : ¬ g_q = g10 := ne_new k_q eg
          replace k_r := bk bc k_r
          replace k_s := bk bc k_s
          replace k_q := bk bc k_q
          replace bw := bst bc bw
          clear bc eY eg
          refine wpAnyH_ready (rs := [2]) (by kernel_rfl) (by simp) ?_
          refine (AllReadyH.cons rfl (fun K hK => ?_) AllReadyH.nil)
          go_simp
          refine (toRect4 s.a s.b s.c s.d _).mono ?_
          rintro e X11 ⟨rfl, bc⟩
          refine hK.out _ _ ⟨ck bc hHeld.1, ck bc hHeld.2.1, ck bc hHeld.2.2.1, ck bc hHeld.2.2.2.1, ck bc hHeld.2.2.2.2.1, ck bc hHeld.2.2.2.2.2.1, ck bc hHeld.2.2.2.2.2.2.1, ck bc hHeld.2.2.2.2.2.2.2⟩ (fun hHeld => ?_)
          clear hK K
          (try simp only [List.setIfInBounds_toArray, List.set_cons_zero, List.set_cons_succ])
          replace k_r := bk bc k_r
          replace k_s := bk bc k_s
          replace k_q := bk bc k_q
          replace k_n8 := bk bc k_n8
          replace bw := bst bc bw
          clear bc
          refine wpAnyH_ready (rs := [3]) (by kernel_rfl) (by simp) ?_
          refine (AllReadyH.cons rfl (fun K hK => ?_) AllReadyH.nil)
          go_simp
          refine (common_none ⟨a, b, c, d⟩ s HC.out _).mono ?_
          rintro e X12 ⟨rfl, bc⟩
          refine hK.out _ _ ⟨ck bc hHeld.1, ck bc hHeld.2.1, ck bc hHeld.2.2.1, ck bc hHeld.2.2.2.1, ck bc hHeld.2.2.2.2.1, ck bc hHeld.2.2.2.2.2.1, ck bc hHeld.2.2.2.2.2.2.1, ck bc hHeld.2.2.2.2.2.2.2⟩ (fun hHeld => ?_)
          clear hK K
          (try simp only [List.setIfInBounds_toArray, List.set_cons_zero, List.set_cons_succ])
          replace k_r := bk bc k_r
          replace k_s := bk bc k_s
          replace k_q := bk bc k_q
          replace k_n8 := bk bc k_n8
          replace bw := bst bc bw
          clear bc
          refine takx (i := 4) (D := 17) (v := .tuple #[.agg #[.int .i64 0, .int .i64 0, .int .i64 0, .int .i64 0], .bool false]) rfl rfl (by kernel_rfl) (by kernel_rfl) (by kernel_rfl) (fun _ _ _ h => h) (Or.inl ⟨by rfl, fun W hSw => by (try dsimp only at hSw); go_simp⟩) (by assumption) ?_
          (try simp only [List.setIfInBounds_toArray, List.set_cons_zero, List.set_cons_succ])
          refine takx (i := 5) (D := 22) (v := .agg #[.int .i64 0, .int .i64 0, .int .i64 0, .int .i64 0]) rfl rfl (by kernel_rfl) (by kernel_rfl) (by kernel_rfl) (fun _ _ _ h => h) (Or.inl ⟨by rfl, fun W hSw => by (try dsimp only at hSw); go_simp⟩) (by assumption) ?_
          (try simp only [List.setIfInBounds_toArray, List.set_cons_zero, List.set_cons_succ])
          refine takx (i := 6) (D := 23) (v := .bool false) rfl rfl (by kernel_rfl) (by kernel_rfl) (by kernel_rfl) (fun _ _ _ h => h) (Or.inl ⟨by rfl, fun W hSw => by (try dsimp only at hSw); go_simp⟩) (by assumption) ?_
          (try simp only [List.setIfInBounds_toArray, List.set_cons_zero, List.set_cons_succ])
          refine wpAnyH_ready (rs := [8]) (by kernel_rfl) (by simp) ?_
          refine (AllReadyH.cons rfl (fun K hK => ?_) AllReadyH.nil)
          have qq := q4c k_n8
          go_simp
          clear qq
          refine hK.out _ _ ⟨(cks ne_q_n8 (cks ne_q_n8 (cks ne_q_n8 (cks ne_q_n8 hHeld.1)))), (cks ne_q_n8 (cks ne_q_n8 (cks ne_q_n8 (cks ne_q_n8 hHeld.2.1)))), (cks ne_q_n8 (cks ne_q_n8 (cks ne_q_n8 (cks ne_q_n8 hHeld.2.2.1)))), (cks ne_q_n8 (cks ne_q_n8 (cks ne_q_n8 (cks ne_q_n8 hHeld.2.2.2.1)))), (cks ne_s_n8 (cks ne_s_n8 (cks ne_s_n8 (cks ne_s_n8 hHeld.2.2.2.2.1)))), (cks ne_s_n8 (cks ne_s_n8 (cks ne_s_n8 (cks ne_s_n8 hHeld.2.2.2.2.2.1)))), (cks ne_s_n8 (cks ne_s_n8 (cks ne_s_n8 (cks ne_s_n8 hHeld.2.2.2.2.2.2.1)))), (cks ne_s_n8 (cks ne_s_n8 (cks ne_s_n8 (cks ne_s_n8 hHeld.2.2.2.2.2.2.2))))⟩ (fun hHeld => ?_)
          clear hK K
          (try simp only [List.setIfInBounds_toArray, List.set_cons_zero, List.set_cons_succ])
          obtain ⟨X13, eY⟩ : ∃ Y, Y = ((((X12.setCell ⟨g10, 0, none⟩ (.int .i64 0)).setCell ⟨g10, 1, none⟩ (.int .i64 0)).setCell ⟨g10, 2, none⟩ (.int .i64 0)).setCell ⟨g10, 3, none⟩ (.int .i64 0)) := ⟨_, rfl⟩
          rw [← eY] at hHeld ⊢
          replace k_r : X13.heap[w.heap.size]? = some (.cells #[.int .i64 a, .int .i64 b, .int .i64 c, .int .i64 d] 23 (0, 0)) := by rw [eY]; exact (bks ne_r_n8 (bks ne_r_n8 (bks ne_r_n8 (bks ne_r_n8 k_r))))
          replace k_s : X13.heap[w.heap.size + 1]? = some (.cells #[.int .i64 s.a, .int .i64 s.b, .int .i64 s.c, .int .i64 s.d] 23 (0, 0)) := by rw [eY]; exact (bks ne_s_n8 (bks ne_s_n8 (bks ne_s_n8 (bks ne_s_n8 k_s))))
          replace k_q : X13.heap[g_q]? = some (.cells #[.int .i64 a, .int .i64 b, .int .i64 c, .int .i64 d] 25 (0, 0)) := by rw [eY]; exact (bks ne_q_n8 (bks ne_q_n8 (bks ne_q_n8 (bks ne_q_n8 k_q))))
          replace bw : Below w.heap.size w X13 := by rw [eY]; exact (bss lo_n8 (bss lo_n8 (bss lo_n8 (bss lo_n8 bw))))
          replace k_n8 : X13.heap[g10]? = some (.cells #[.int .i64 0, .int .i64 0, .int .i64 0, .int .i64 0] 25 (0, 0)) := by rw [eY]; exact q4s k_n8
          clear eY
          refine takx (i := 9) (D := 9) (v := .bool false) rfl rfl (by kernel_rfl) (by kernel_rfl) (by kernel_rfl) (fun _ _ _ h => h) (Or.inl ⟨by rfl, fun W hSw => by (try dsimp only at hSw); go_simp⟩) (by assumption) ?_
          (try simp only [List.setIfInBounds_toArray, List.set_cons_zero, List.set_cons_succ])
          refine wpAnyH_done (by kernel_rfl) ?_ _
          go_wp2_with fail
          go_meet
          exact ⟨_, rfl, rfl, k_n8, k_r, k_s, k_q, bw⟩
      case rest =>
        clear k_r k_s k_q bw
        obtain ⟨g_both, rfl, rfl, k_both, k_r, k_s, k_q, BW⟩ := hcut
        have bw := BW.out
        clear BW
        have q_r := q4c k_r
        have q_s := q4c k_s
        have q_q := q4c k_q
        have q_both := q4c k_both
        go_wp2_with fail
        refine (fine_no a b c d ha hb hc hd HF.out _).mono ?_
        rintro e Y15 ⟨rfl, bc⟩
        clear q_r q_s q_q q_both
        replace k_r := bk bc k_r
        replace k_s := bk bc k_s
        replace k_q := bk bc k_q
        replace k_both := bk bc k_both
        replace bw := bst bc bw
        clear bc
        go_wp2
        go_ret
        first | exact ⟨rfl, bw⟩ | exact ⟨trivial, bw⟩
    | some t =>
      have HC := Lib.hid hc0
      clear hc0
      go_enter Try.func3, Try.ntmps3
      go_wp2_with fail
      refine (toRect4 a b c d _).mono ?_
      rintro e w1 ⟨rfl, bc⟩
      have bw := bst bc (bsa (bsa (Below.refl _ _)))
      have k_r : w1.heap[w.heap.size]? = some (.cells #[.int .i64 a, .int .i64 b, .int .i64 c, .int .i64 d] 23 (0, 0)) := by have := bk bc (bka (heap_alloc_new w _)); simpa using this
      have k_s : w1.heap[w.heap.size + 1]? = some (.cells #[.int .i64 s.a, .int .i64 s.b, .int .i64 s.c, .int .i64 s.d] 23 (0, 0)) := by have := bk bc (heap_alloc_new (w.alloc (.cells #[.int .i64 a, .int .i64 b, .int .i64 c, .int .i64 d] 23)) _); simpa using this
      clear bc
      go_upto_region 2 with fail
      obtain ⟨Y1, g_q, eY, eg⟩ : ∃ Y g, Y = w1.alloc (.cells #[.int .i64 a, .int .i64 b, .int .i64 c, .int .i64 d] 25) ∧ g = w1.heap.size := ⟨_, _, rfl, rfl⟩
      rw [← eY, ← eg]
      have bc : Below w1.heap.size w1 Y1 := by rw [eY]; exact (Below.refl _ _).alloc (Nat.le_refl _) _
      have k_q : Y1.heap[g_q]? = some (.cells #[.int .i64 a, .int .i64 b, .int .i64 c, .int .i64 d] 25 (0, 0)) := by rw [eY, eg]; exact heap_alloc_new w1 _
      replace k_r := bk bc k_r
      replace k_s := bk bc k_s
      replace bw := bst bc bw
      clear bc eY eg
      go_cut [8, 9] (fun s8 s9 wx => ∃ (g_both : Nat), s8 = .pointer (some ⟨g_both, 0, none⟩) ∧ s9 = .bool true ∧ wx.heap[g_both]? = some (.cells #[.int .i64 t.a, .int .i64 t.b, .int .i64 t.c, .int .i64 t.d] 25 (0, 0)) ∧ wx.heap[w.heap.size]? = some (.cells #[.int .i64 a, .int .i64 b, .int .i64 c, .int .i64 d] 23 (0, 0)) ∧ wx.heap[w.heap.size + 1]? = some (.cells #[.int .i64 s.a, .int .i64 s.b, .int .i64 s.c, .int .i64 s.d] 23 (0, 0)) ∧ wx.heap[g_q]? = some (.cells #[.int .i64 a, .int .i64 b, .int .i64 c, .int .i64 d] 25 (0, 0)) ∧ Hid (Below w.heap.size w wx))
      case first =>
        refine wp_region_held_drew (S := fun w' => w'.cell? ⟨g_q, 0, none⟩ = some (.int .i64 a) ∧ w'.cell? ⟨g_q, 1, none⟩ = some (.int .i64 b) ∧ w'.cell? ⟨g_q, 2, none⟩ = some (.int .i64 c) ∧ w'.cell? ⟨g_q, 3, none⟩ = some (.int .i64 d) ∧ w'.cell? ⟨w.heap.size + 1, 0, none⟩ = some (.int .i64 s.a) ∧ w'.cell? ⟨w.heap.size + 1, 1, none⟩ = some (.int .i64 s.b) ∧ w'.cell? ⟨w.heap.size + 1, 2, none⟩ = some (.int .i64 s.c) ∧ w'.cell? ⟨w.heap.size + 1, 3, none⟩ = some (.int .i64 s.d)) (by kernel_rfl) ⟨(q4c k_q).1.1, (q4c k_q).1.2.1, (q4c k_q).1.2.2.1, (q4c k_q).1.2.2.2, (q4c k_s).1.1, (q4c k_s).1.2.1, (q4c k_s).1.2.2.1, (q4c k_s).1.2.2.2⟩ ?_
        intro hHeld
        obtain ⟨X2, eX, bc⟩ : ∃ X, X = Y1.drew ∧ Below Y1.heap.size Y1 X := ⟨_, rfl, (Below.refl _ _).drew⟩
        rw [← eX] at hHeld ⊢
        replace k_r := bk bc k_r
        replace k_s := bk bc k_s
        replace k_q := bk bc k_q
        replace bw := bst bc bw
        clear eX bc
        refine takx (i := 0) (D := 18) (v := .agg #[.int .i64 a, .int .i64 b, .int .i64 c, .int .i64 d]) rfl rfl (by kernel_rfl) (by kernel_rfl) (by kernel_rfl) (fun _ _ _ h => h) (Or.inl ⟨by rfl, fun W hSw => by (try dsimp only at hSw); go_simp⟩) (by assumption) ?_
        (try simp only [List.setIfInBounds_toArray, List.set_cons_zero, List.set_cons_succ])
        refine takx (i := 1) (D := 19) (v := .agg #[.int .i64 s.a, .int .i64 s.b, .int .i64 s.c, .int .i64 s.d]) rfl rfl (by kernel_rfl) (by kernel_rfl) (by kernel_rfl) (fun _ _ _ h => h) (Or.inl ⟨by rfl, fun W hSw => by (try dsimp only at hSw); go_simp⟩) (by assumption) ?_
        (try simp only [List.setIfInBounds_toArray, List.set_cons_zero, List.set_cons_succ])
        refine wpAnyH_ready (rs := [2, 7]) (by kernel_rfl) (by simp) ?_
        refine (AllReadyH.cons rfl (fun K hK => ?_) (AllReadyH.cons rfl (fun K hK => ?_) AllReadyH.nil))
        · go_simp
          refine (toRect4 s.a s.b s.c s.d _).mono ?_
          rintro e X3 ⟨rfl, bc⟩
          refine hK.out _ _ ⟨ck bc hHeld.1, ck bc hHeld.2.1, ck bc hHeld.2.2.1, ck bc hHeld.2.2.2.1, ck bc hHeld.2.2.2.2.1, ck bc hHeld.2.2.2.2.2.1, ck bc hHeld.2.2.2.2.2.2.1, ck bc hHeld.2.2.2.2.2.2.2⟩ (fun hHeld => ?_)
          clear hK K
          (try simp only [List.setIfInBounds_toArray, List.set_cons_zero, List.set_cons_succ])
          replace k_r := bk bc k_r
          replace k_s := bk bc k_s
          replace k_q := bk bc k_q
          replace bw := bst bc bw
          clear bc
          refine wpAnyH_ready (rs := [3, 7]) (by kernel_rfl) (by simp) ?_
          refine (AllReadyH.cons rfl (fun K hK => ?_) (AllReadyH.cons rfl (fun K hK => ?_) AllReadyH.nil))
          · go_simp
            refine (common_some ⟨a, b, c, d⟩ s t HC.out _).mono ?_
            rintro e X4 ⟨rfl, bc⟩
            refine hK.out _ _ ⟨ck bc hHeld.1, ck bc hHeld.2.1, ck bc hHeld.2.2.1, ck bc hHeld.2.2.2.1, ck bc hHeld.2.2.2.2.1, ck bc hHeld.2.2.2.2.2.1, ck bc hHeld.2.2.2.2.2.2.1, ck bc hHeld.2.2.2.2.2.2.2⟩ (fun hHeld => ?_)
            clear hK K
            (try simp only [List.setIfInBounds_toArray, List.set_cons_zero, List.set_cons_succ])
            replace k_r := bk bc k_r
            replace k_s := bk bc k_s
            replace k_q := bk bc k_q
            replace bw := bst bc bw
            clear bc
            refine takx (i := 4) (D := 17) (v := .tuple #[.agg #[.int .i64 t.a, .int .i64 t.b, .int .i64 t.c, .int .i64 t.d], .bool true]) rfl rfl (by kernel_rfl) (by kernel_rfl) (by kernel_rfl) (fun _ _ _ h => h) (Or.inl ⟨by rfl, fun W hSw => by (try dsimp only at hSw); go_simp⟩) (by assumption) ?_
            (try simp only [List.setIfInBounds_toArray, List.set_cons_zero, List.set_cons_succ])
            refine takx (i := 5) (D := 22) (v := .agg #[.int .i64 t.a, .int .i64 t.b, .int .i64 t.c, .int .i64 t.d]) rfl rfl (by kernel_rfl) (by kernel_rfl) (by kernel_rfl) (fun _ _ _ h => h) (Or.inl ⟨by rfl, fun W hSw => by (try dsimp only at hSw); go_simp⟩) (by assumption) ?_
            (try simp only [List.setIfInBounds_toArray, List.set_cons_zero, List.set_cons_succ])
            refine takx (i := 6) (D := 23) (v := .bool true) rfl rfl (by kernel_rfl) (by kernel_rfl) (by kernel_rfl) (fun _ _ _ h => h) (Or.inl ⟨by rfl, fun W hSw => by (try dsimp only at hSw); go_simp⟩) (by assumption) ?_
            (try simp only [List.setIfInBounds_toArray, List.set_cons_zero, List.set_cons_succ])
            refine wpAnyH_ready (rs := [7]) (by kernel_rfl) (by simp) ?_
            refine (AllReadyH.cons rfl (fun K hK => ?_) AllReadyH.nil)
            go_simp
            refine hK.out _ _ ⟨cka hHeld.1, cka hHeld.2.1, cka hHeld.2.2.1, cka hHeld.2.2.2.1, cka hHeld.2.2.2.2.1, cka hHeld.2.2.2.2.2.1, cka hHeld.2.2.2.2.2.2.1, cka hHeld.2.2.2.2.2.2.2⟩ (fun hHeld => ?_)
            clear hK K
            (try simp only [List.setIfInBounds_toArray, List.set_cons_zero, List.set_cons_succ])
            obtain ⟨X5, g5, eY, eg⟩ : ∃ Y g, Y = X4.alloc (.cells #[.int .i64 0, .int .i64 0, .int .i64 0, .int .i64 0] 25) ∧ g = X4.heap.size := ⟨_, _, rfl, rfl⟩
            rw [← eY, ← eg]
            rw [← eY] at hHeld
            have bc : Below X4.heap.size X4 X5 := by rw [eY]; exact (Below.refl _ _).alloc (Nat.le_refl _) _
            have k_n8 : X5.heap[g5]? = some (.cells #[.int .i64 0, .int .i64 0, .int .i64 0, .int .i64 0] 25 (0, 0)) := by rw [eY, eg]; exact heap_alloc_new X4 _
            have lo_n8 : w.heap.size ≤ g5 := by rw [eg]; exact bw.size
            have ne_r_n8 : ¬ w.heap.size = g5 := ne_new k_r eg
            have ne_s_n8 : ¬ w.heap.size + 1 = g5 := ne_new k_s eg
            have ne_q_n8 : ¬ g_q = g5 := ne_new k_q eg
            replace k_r := bk bc k_r
            replace k_s := bk bc k_s
            replace k_q := bk bc k_q
            replace bw := bst bc bw
            clear bc eY eg
            refine wpAnyH_ready (rs := [8]) (by kernel_rfl) (by simp) ?_
            refine (AllReadyH.cons rfl (fun K hK => ?_) AllReadyH.nil)
            have qq := q4c k_n8
            go_simp
            clear qq
            refine hK.out _ _ ⟨(cks ne_q_n8 (cks ne_q_n8 (cks ne_q_n8 (cks ne_q_n8 hHeld.1)))), (cks ne_q_n8 (cks ne_q_n8 (cks ne_q_n8 (cks ne_q_n8 hHeld.2.1)))), (cks ne_q_n8 (cks ne_q_n8 (cks ne_q_n8 (cks ne_q_n8 hHeld.2.2.1)))), (cks ne_q_n8 (cks ne_q_n8 (cks ne_q_n8 (cks ne_q_n8 hHeld.2.2.2.1)))), (cks ne_s_n8 (cks ne_s_n8 (cks ne_s_n8 (cks ne_s_n8 hHeld.2.2.2.2.1)))), (cks ne_s_n8 (cks ne_s_n8 (cks ne_s_n8 (cks ne_s_n8 hHeld.2.2.2.2.2.1)))), (cks ne_s_n8 (cks ne_s_n8 (cks ne_s_n8 (cks ne_s_n8 hHeld.2.2.2.2.2.2.1)))), (cks ne_s_n8 (cks ne_s_n8 (cks ne_s_n8 (cks ne_s_n8 hHeld.2.2.2.2.2.2.2))))⟩ (fun hHeld => ?_)
            clear hK K
            (try simp only [List.setIfInBounds_toArray, List.set_cons_zero, List.set_cons_succ])
            obtain ⟨X6, eY⟩ : ∃ Y, Y = ((((X5.setCell ⟨g5, 0, none⟩ (.int .i64 t.a)).setCell ⟨g5, 1, none⟩ (.int .i64 t.b)).setCell ⟨g5, 2, none⟩ (.int .i64 t.c)).setCell ⟨g5, 3, none⟩ (.int .i64 t.d)) := ⟨_, rfl⟩
            rw [← eY] at hHeld ⊢
            replace k_r : X6.heap[w.heap.size]? = some (.cells #[.int .i64 a, .int .i64 b, .int .i64 c, .int .i64 d] 23 (0, 0)) := by rw [eY]; exact (bks ne_r_n8 (bks ne_r_n8 (bks ne_r_n8 (bks ne_r_n8 k_r))))
            replace k_s : X6.heap[w.heap.size + 1]? = some (.cells #[.int .i64 s.a, .int .i64 s.b, .int .i64 s.c, .int .i64 s.d] 23 (0, 0)) := by rw [eY]; exact (bks ne_s_n8 (bks ne_s_n8 (bks ne_s_n8 (bks ne_s_n8 k_s))))
            replace k_q : X6.heap[g_q]? = some (.cells #[.int .i64 a, .int .i64 b, .int .i64 c, .int .i64 d] 25 (0, 0)) := by rw [eY]; exact (bks ne_q_n8 (bks ne_q_n8 (bks ne_q_n8 (bks ne_q_n8 k_q))))
            replace bw : Below w.heap.size w X6 := by rw [eY]; exact (bss lo_n8 (bss lo_n8 (bss lo_n8 (bss lo_n8 bw))))
            replace k_n8 : X6.heap[g5]? = some (.cells #[.int .i64 t.a, .int .i64 t.b, .int .i64 t.c, .int .i64 t.d] 25 (0, 0)) := by rw [eY]; exact q4s k_n8
            clear eY
            refine takx (i := 9) (D := 9) (v := .bool true) rfl rfl (by kernel_rfl) (by kernel_rfl) (by kernel_rfl) (fun _ _ _ h => h) (Or.inl ⟨by rfl, fun W hSw => by (try dsimp only at hSw); go_simp⟩) (by assumption) ?_
            (try simp only [List.setIfInBounds_toArray, List.set_cons_zero, List.set_cons_succ])
            refine wpAnyH_done (by kernel_rfl) ?_ _
            go_wp2_with fail
            go_meet
            exact ⟨_, rfl, rfl, k_n8, k_r, k_s, k_q, bw⟩
          · go_simp
            refine hK.out _ _ ⟨cka hHeld.1, cka hHeld.2.1, cka hHeld.2.2.1, cka hHeld.2.2.2.1, cka hHeld.2.2.2.2.1, cka hHeld.2.2.2.2.2.1, cka hHeld.2.2.2.2.2.2.1, cka hHeld.2.2.2.2.2.2.2⟩ (fun hHeld => ?_)
            clear hK K
            (try simp only [List.setIfInBounds_toArray, List.set_cons_zero, List.set_cons_succ])
            obtain ⟨X7, g7, eY, eg⟩ : ∃ Y g, Y = X3.alloc (.cells #[.int .i64 0, .int .i64 0, .int .i64 0, .int .i64 0] 25) ∧ g = X3.heap.size := ⟨_, _, rfl, rfl⟩
            rw [← eY, ← eg]
            rw [← eY] at hHeld
            have bc : Below X3.heap.size X3 X7 := by rw [eY]; exact (Below.refl _ _).alloc (Nat.le_refl _) _
            have k_n8 : X7.heap[g7]? = some (.cells #[.int .i64 0, .int .i64 0, .int .i64 0, .int .i64 0] 25 (0, 0)) := by rw [eY, eg]; exact heap_alloc_new X3 _
            have lo_n8 : w.heap.size ≤ g7 := by rw [eg]; exact bw.size
            have ne_r_n8 : ¬ w.heap.size = g7 := ne_new k_r eg
            have ne_s_n8 : ¬ w.heap.size + 1 = g7 := ne_new k_s eg
            have ne_q_n8 : ¬ g_q = g7 := ne_new k_q eg
            replace k_r := bk bc k_r
            replace k_s := bk bc k_s
            replace k_q := bk bc k_q
            replace bw := bst bc bw
            clear bc eY eg
            refine wpAnyH_ready (rs := [3]) (by kernel_rfl) (by simp) ?_
            refine (AllReadyH.cons rfl (fun K hK => ?_) AllReadyH.nil)
            go_simp
            refine (common_some ⟨a, b, c, d⟩ s t HC.out _).mono ?_
            rintro e X8 ⟨rfl, bc⟩
            refine hK.out _ _ ⟨ck bc hHeld.1, ck bc hHeld.2.1, ck bc hHeld.2.2.1, ck bc hHeld.2.2.2.1, ck bc hHeld.2.2.2.2.1, ck bc hHeld.2.2.2.2.2.1, ck bc hHeld.2.2.2.2.2.2.1, ck bc hHeld.2.2.2.2.2.2.2⟩ (fun hHeld => ?_)
            clear hK K
            (try simp only [List.setIfInBounds_toArray, List.set_cons_zero, List.set_cons_succ])
            replace k_r := bk bc k_r
            replace k_s := bk bc k_s
            replace k_q := bk bc k_q
            replace k_n8 := bk bc k_n8
            replace bw := bst bc bw
            clear bc
            refine takx (i := 4) (D := 17) (v := .tuple #[.agg #[.int .i64 t.a, .int .i64 t.b, .int .i64 t.c, .int .i64 t.d], .bool true]) rfl rfl (by kernel_rfl) (by kernel_rfl) (by kernel_rfl) (fun _ _ _ h => h) (Or.inl ⟨by rfl, fun W hSw => by (try dsimp only at hSw); go_simp⟩) (by assumption) ?_
            (try simp only [List.setIfInBounds_toArray, List.set_cons_zero, List.set_cons_succ])
            refine takx (i := 5) (D := 22) (v := .agg #[.int .i64 t.a, .int .i64 t.b, .int .i64 t.c, .int .i64 t.d]) rfl rfl (by kernel_rfl) (by kernel_rfl) (by kernel_rfl) (fun _ _ _ h => h) (Or.inl ⟨by rfl, fun W hSw => by (try dsimp only at hSw); go_simp⟩) (by assumption) ?_
            (try simp only [List.setIfInBounds_toArray, List.set_cons_zero, List.set_cons_succ])
            refine takx (i := 6) (D := 23) (v := .bool true) rfl rfl (by kernel_rfl) (by kernel_rfl) (by kernel_rfl) (fun _ _ _ h => h) (Or.inl ⟨by rfl, fun W hSw => by (try dsimp only at hSw); go_simp⟩) (by assumption) ?_
            (try simp only [List.setIfInBounds_toArray, List.set_cons_zero, List.set_cons_succ])
            refine wpAnyH_ready (rs := [8]) (by kernel_rfl) (by simp) ?_
            refine (AllReadyH.cons rfl (fun K hK => ?_) AllReadyH.nil)
            have qq := q4c k_n8
            go_simp
            clear qq
            refine hK.out _ _ ⟨(cks ne_q_n8 (cks ne_q_n8 (cks ne_q_n8 (cks ne_q_n8 hHeld.1)))), (cks ne_q_n8 (cks ne_q_n8 (cks ne_q_n8 (cks ne_q_n8 hHeld.2.1)))), (cks ne_q_n8 (cks ne_q_n8 (cks ne_q_n8 (cks ne_q_n8 hHeld.2.2.1)))), (cks ne_q_n8 (cks ne_q_n8 (cks ne_q_n8 (cks ne_q_n8 hHeld.2.2.2.1)))), (cks ne_s_n8 (cks ne_s_n8 (cks ne_s_n8 (cks ne_s_n8 hHeld.2.2.2.2.1)))), (cks ne_s_n8 (cks ne_s_n8 (cks ne_s_n8 (cks ne_s_n8 hHeld.2.2.2.2.2.1)))), (cks ne_s_n8 (cks ne_s_n8 (cks ne_s_n8 (cks ne_s_n8 hHeld.2.2.2.2.2.2.1)))), (cks ne_s_n8 (cks ne_s_n8 (cks ne_s_n8 (cks ne_s_n8 hHeld.2.2.2.2.2.2.2))))⟩ (fun hHeld => ?_)
            clear hK K
            (try simp only [List.setIfInBounds_toArray, List.set_cons_zero, List.set_cons_succ])
            obtain ⟨X9, eY⟩ : ∃ Y, Y = ((((X8.setCell ⟨g7, 0, none⟩ (.int .i64 t.a)).setCell ⟨g7, 1, none⟩ (.int .i64 t.b)).setCell ⟨g7, 2, none⟩ (.int .i64 t.c)).setCell ⟨g7, 3, none⟩ (.int .i64 t.d)) := ⟨_, rfl⟩
            rw [← eY] at hHeld ⊢
            replace k_r : X9.heap[w.heap.size]? = some (.cells #[.int .i64 a, .int .i64 b, .int .i64 c, .int .i64 d] 23 (0, 0)) := by rw [eY]; exact (bks ne_r_n8 (bks ne_r_n8 (bks ne_r_n8 (bks ne_r_n8 k_r))))
            replace k_s : X9.heap[w.heap.size + 1]? = some (.cells #[.int .i64 s.a, .int .i64 s.b, .int .i64 s.c, .int .i64 s.d] 23 (0, 0)) := by rw [eY]; exact (bks ne_s_n8 (bks ne_s_n8 (bks ne_s_n8 (bks ne_s_n8 k_s))))
            replace k_q : X9.heap[g_q]? = some (.cells #[.int .i64 a, .int .i64 b, .int .i64 c, .int .i64 d] 25 (0, 0)) := by rw [eY]; exact (bks ne_q_n8 (bks ne_q_n8 (bks ne_q_n8 (bks ne_q_n8 k_q))))
            replace bw : Below w.heap.size w X9 := by rw [eY]; exact (bss lo_n8 (bss lo_n8 (bss lo_n8 (bss lo_n8 bw))))
            replace k_n8 : X9.heap[g7]? = some (.cells #[.int .i64 t.a, .int .i64 t.b, .int .i64 t.c, .int .i64 t.d] 25 (0, 0)) := by rw [eY]; exact q4s k_n8
            clear eY
            refine takx (i := 9) (D := 9) (v := .bool true) rfl rfl (by kernel_rfl) (by kernel_rfl) (by kernel_rfl) (fun _ _ _ h => h) (Or.inl ⟨by rfl, fun W hSw => by (try dsimp only at hSw); go_simp⟩) (by assumption) ?_
            (try simp only [List.setIfInBounds_toArray, List.set_cons_zero, List.set_cons_succ])
            refine wpAnyH_done (by kernel_rfl) ?_ _
            go_wp2_with fail
            go_meet
            exact ⟨_, rfl, rfl, k_n8, k_r, k_s, k_q, bw⟩
        · go_simp
          refine hK.out _ _ ⟨cka hHeld.1, cka hHeld.2.1, cka hHeld.2.2.1, cka hHeld.2.2.2.1, cka hHeld.2.2.2.2.1, cka hHeld.2.2.2.2.2.1, cka hHeld.2.2.2.2.2.2.1, cka hHeld.2.2.2.2.2.2.2⟩ (fun hHeld => ?_)
          clear hK K
          (try simp only [List.setIfInBounds_toArray, List.set_cons_zero, List.set_cons_succ])
          obtain ⟨X10, g10, eY, eg⟩ : ∃ Y g, Y = X2.alloc (.cells #[.int .i64 0, .int .i64 0, .int .i64 0, .int .i64 0] 25) ∧ g = X2.heap.size := ⟨_, _, rfl, rfl⟩
          rw [← eY, ← eg]
          rw [← eY] at hHeld
          have bc : Below X2.heap.size X2 X10 := by rw [eY]; exact (Below.refl _ _).alloc (Nat.le_refl _) _
          have k_n8 : X10.heap[g10]? = some (.cells #[.int .i64 0, .int .i64 0, .int .i64 0, .int .i64 0] 25 (0, 0)) := by rw [eY, eg]; exact heap_alloc_new X2 _
          have lo_n8 : w.heap.size ≤ g10 := by rw [eg]; exact bw.size
          have ne_r_n8 : ¬ w.heap.size = g10 := ne_new k_r eg
          have ne_s_n8 : ¬ w.heap.size + 1 = g10 := ne_new k_s eg
          have ne_q_n8 : ¬ g_q = g10 := ne_new k_q eg
          replace k_r := bk bc k_r
          replace k_s := bk bc k_s
          replace k_q := bk bc k_q
          replace bw := bst bc bw
          clear bc eY eg
          refine wpAnyH_ready (rs := [2]) (by kernel_rfl) (by simp) ?_
          refine (AllReadyH.cons rfl (fun K hK => ?_) AllReadyH.nil)
          go_simp
          refine (toRect4 s.a s.b s.c s.d _).mono ?_
          rintro e X11 ⟨rfl, bc⟩
          refine hK.out _ _ ⟨ck bc hHeld.1, ck bc hHeld.2.1, ck bc hHeld.2.2.1, ck bc hHeld.2.2.2.1, ck bc hHeld.2.2.2.2.1, ck bc hHeld.2.2.2.2.2.1, ck bc hHeld.2.2.2.2.2.2.1, ck bc hHeld.2.2.2.2.2.2.2⟩ (fun hHeld => ?_)
          clear hK K
          (try simp only [List.setIfInBounds_toArray, List.set_cons_zero, List.set_cons_succ])
          replace k_r := bk bc k_r
          replace k_s := bk bc k_s
          replace k_q := bk bc k_q
          replace k_n8 := bk bc k_n8
          replace bw := bst bc bw
          clear bc
          refine wpAnyH_ready (rs := [3]) (by kernel_rfl) (by simp) ?_
          refine (AllReadyH.cons rfl (fun K hK => ?_) AllReadyH.nil)
          go_simp
          refine (common_some ⟨a, b, c, d⟩ s t HC.out _).mono ?_
          rintro e X12 ⟨rfl, bc⟩
          refine hK.out _ _ ⟨ck bc hHeld.1, ck bc hHeld.2.1, ck bc hHeld.2.2.1, ck bc hHeld.2.2.2.1, ck bc hHeld.2.2.2.2.1, ck bc hHeld.2.2.2.2.2.1, ck bc hHeld.2.2.2.2.2.2.1, ck bc hHeld.2.2.2.2.2.2.2⟩ (fun hHeld => ?_)
          clear hK K
          (try simp only [List.setIfInBounds_toArray, List.set_cons_zero, List.set_cons_succ])
          replace k_r := bk bc k_r
          replace k_s := bk bc k_s
          replace k_q := bk bc k_q
          replace k_n8 := bk bc k_n8
          replace bw := bst bc bw
          clear bc
          refine takx (i := 4) (D := 17) (v := .tuple #[.agg #[.int .i64 t.a, .int .i64 t.b, .int .i64 t.c, .int .i64 t.d], .bool true]) rfl rfl (by kernel_rfl) (by kernel_rfl) (by kernel_rfl) (fun _ _ _ h => h) (Or.inl ⟨by rfl, fun W hSw => by (try dsimp only at hSw); go_simp⟩) (by assumption) ?_
          (try simp only [List.setIfInBounds_toArray, List.set_cons_zero, List.set_cons_succ])
          refine takx (i := 5) (D := 22) (v := .agg #[.int .i64 t.a, .int .i64 t.b, .int .i64 t.c, .int .i64 t.d]) rfl rfl (by kernel_rfl) (by kernel_rfl) (by kernel_rfl) (fun _ _ _ h => h) (Or.inl ⟨by rfl, fun W hSw => by (try dsimp only at hSw); go_simp⟩) (by assumption) ?_
          (try simp only [List.setIfInBounds_toArray, List.set_cons_zero, List.set_cons_succ])
          refine takx (i := 6) (D := 23) (v := .bool true) rfl rfl (by kernel_rfl) (by kernel_rfl) (by kernel_rfl) (fun _ _ _ h => h) (Or.inl ⟨by rfl, fun W hSw => by (try dsimp only at hSw); go_simp⟩) (by assumption) ?_
          (try simp only [List.setIfInBounds_toArray, List.set_cons_zero, List.set_cons_succ])
          refine wpAnyH_ready (rs := [8]) (by kernel_rfl) (by simp) ?_
          refine (AllReadyH.cons rfl (fun K hK => ?_) AllReadyH.nil)
          have qq := q4c k_n8
          go_simp
          clear qq
          refine hK.out _ _ ⟨(cks ne_q_n8 (cks ne_q_n8 (cks ne_q_n8 (cks ne_q_n8 hHeld.1)))), (cks ne_q_n8 (cks ne_q_n8 (cks ne_q_n8 (cks ne_q_n8 hHeld.2.1)))), (cks ne_q_n8 (cks ne_q_n8 (cks ne_q_n8 (cks ne_q_n8 hHeld.2.2.1)))), (cks ne_q_n8 (cks ne_q_n8 (cks ne_q_n8 (cks ne_q_n8 hHeld.2.2.2.1)))), (cks ne_s_n8 (cks ne_s_n8 (cks ne_s_n8 (cks ne_s_n8 hHeld.2.2.2.2.1)))), (cks ne_s_n8 (cks ne_s_n8 (cks ne_s_n8 (cks ne_s_n8 hHeld.2.2.2.2.2.1)))), (cks ne_s_n8 (cks ne_s_n8 (cks ne_s_n8 (cks ne_s_n8 hHeld.2.2.2.2.2.2.1)))), (cks ne_s_n8 (cks ne_s_n8 (cks ne_s_n8 (cks ne_s_n8 hHeld.2.2.2.2.2.2.2))))⟩ (fun hHeld => ?_)
          clear hK K
          (try simp only [List.setIfInBounds_toArray, List.set_cons_zero, List.set_cons_succ])
          obtain ⟨X13, eY⟩ : ∃ Y, Y = ((((X12.setCell ⟨g10, 0, none⟩ (.int .i64 t.a)).setCell ⟨g10, 1, none⟩ (.int .i64 t.b)).setCell ⟨g10, 2, none⟩ (.int .i64 t.c)).setCell ⟨g10, 3, none⟩ (.int .i64 t.d)) := ⟨_, rfl⟩
          rw [← eY] at hHeld ⊢
          replace k_r : X13.heap[w.heap.size]? = some (.cells #[.int .i64 a, .int .i64 b, .int .i64 c, .int .i64 d] 23 (0, 0)) := by rw [eY]; exact (bks ne_r_n8 (bks ne_r_n8 (bks ne_r_n8 (bks ne_r_n8 k_r))))
          replace k_s : X13.heap[w.heap.size + 1]? = some (.cells #[.int .i64 s.a, .int .i64 s.b, .int .i64 s.c, .int .i64 s.d] 23 (0, 0)) := by rw [eY]; exact (bks ne_s_n8 (bks ne_s_n8 (bks ne_s_n8 (bks ne_s_n8 k_s))))
          replace k_q : X13.heap[g_q]? = some (.cells #[.int .i64 a, .int .i64 b, .int .i64 c, .int .i64 d] 25 (0, 0)) := by rw [eY]; exact (bks ne_q_n8 (bks ne_q_n8 (bks ne_q_n8 (bks ne_q_n8 k_q))))
          replace bw : Below w.heap.size w X13 := by rw [eY]; exact (bss lo_n8 (bss lo_n8 (bss lo_n8 (bss lo_n8 bw))))
          replace k_n8 : X13.heap[g10]? = some (.cells #[.int .i64 t.a, .int .i64 t.b, .int .i64 t.c, .int .i64 t.d] 25 (0, 0)) := by rw [eY]; exact q4s k_n8
          clear eY
          refine takx (i := 9) (D := 9) (v := .bool true) rfl rfl (by kernel_rfl) (by kernel_rfl) (by kernel_rfl) (fun _ _ _ h => h) (Or.inl ⟨by rfl, fun W hSw => by (try dsimp only at hSw); go_simp⟩) (by assumption) ?_
          (try simp only [List.setIfInBounds_toArray, List.set_cons_zero, List.set_cons_succ])
          refine wpAnyH_done (by kernel_rfl) ?_ _
          go_wp2_with fail
          go_meet
          exact ⟨_, rfl, rfl, k_n8, k_r, k_s, k_q, bw⟩
      case rest =>
        clear k_r k_s k_q bw
        obtain ⟨g_both, rfl, rfl, k_both, k_r, k_s, k_q, BW⟩ := hcut
        have bw := BW.out
        clear BW
        have q_r := q4c k_r
        have q_s := q4c k_s
        have q_q := q4c k_q
        have q_both := q4c k_both
        go_wp2_with fail
        refine (fine_no a b c d ha hb hc hd HF.out _).mono ?_
        rintro e Y15 ⟨rfl, bc⟩
        clear q_r q_s q_q q_both
        replace k_r := bk bc k_r
        replace k_s := bk bc k_s
        replace k_q := bk bc k_q
        replace k_both := bk bc k_both
        replace bw := bst bc bw
        clear bc
        go_wp2
        go_ret
        first | exact ⟨rfl, bw⟩ | exact ⟨trivial, bw⟩
  obtain ⟨h3, h4, h5, h6, M, hM⟩ := fine_area hf
  obtain ⟨N, hN⟩ : ∃ N : Nat, 4 * (c - a) * (d - b) = N := ⟨4 * M, by rw [Int.mul_assoc, hM]; omega⟩
  have HF := Lib.hid hf
  have HN := Lib.hid hN
  have HM := Lib.hid hM
  clear hf hN hM
  cases hc0 : com ⟨a, b, c, d⟩ s with
  | none =>
    have HC := Lib.hid hc0
    clear hc0
    go_enter Try.func3, Try.ntmps3
    go_wp2_with fail
    refine (toRect4 a b c d _).mono ?_
    rintro e w1 ⟨rfl, bc⟩
    have bw := bst bc (bsa (bsa (Below.refl _ _)))
    have k_r : w1.heap[w.heap.size]? = some (.cells #[.int .i64 a, .int .i64 b, .int .i64 c, .int .i64 d] 23 (0, 0)) := by have := bk bc (bka (heap_alloc_new w _)); simpa using this
    have k_s : w1.heap[w.heap.size + 1]? = some (.cells #[.int .i64 s.a, .int .i64 s.b, .int .i64 s.c, .int .i64 s.d] 23 (0, 0)) := by have := bk bc (heap_alloc_new (w.alloc (.cells #[.int .i64 a, .int .i64 b, .int .i64 c, .int .i64 d] 23)) _); simpa using this
    clear bc
    go_upto_region 2 with fail
    obtain ⟨Y1, g_q, eY, eg⟩ : ∃ Y g, Y = w1.alloc (.cells #[.int .i64 a, .int .i64 b, .int .i64 c, .int .i64 d] 25) ∧ g = w1.heap.size := ⟨_, _, rfl, rfl⟩
    rw [← eY, ← eg]
    have bc : Below w1.heap.size w1 Y1 := by rw [eY]; exact (Below.refl _ _).alloc (Nat.le_refl _) _
    have k_q : Y1.heap[g_q]? = some (.cells #[.int .i64 a, .int .i64 b, .int .i64 c, .int .i64 d] 25 (0, 0)) := by rw [eY, eg]; exact heap_alloc_new w1 _
    replace k_r := bk bc k_r
    replace k_s := bk bc k_s
    replace bw := bst bc bw
    clear bc eY eg
    go_cut [8, 9] (fun s8 s9 wx => ∃ (g_both : Nat), s8 = .pointer (some ⟨g_both, 0, none⟩) ∧ s9 = .bool false ∧ wx.heap[g_both]? = some (.cells #[.int .i64 0, .int .i64 0, .int .i64 0, .int .i64 0] 25 (0, 0)) ∧ wx.heap[w.heap.size]? = some (.cells #[.int .i64 a, .int .i64 b, .int .i64 c, .int .i64 d] 23 (0, 0)) ∧ wx.heap[w.heap.size + 1]? = some (.cells #[.int .i64 s.a, .int .i64 s.b, .int .i64 s.c, .int .i64 s.d] 23 (0, 0)) ∧ wx.heap[g_q]? = some (.cells #[.int .i64 a, .int .i64 b, .int .i64 c, .int .i64 d] 25 (0, 0)) ∧ Hid (Below w.heap.size w wx))
    case first =>
      refine wp_region_held_drew (S := fun w' => w'.cell? ⟨g_q, 0, none⟩ = some (.int .i64 a) ∧ w'.cell? ⟨g_q, 1, none⟩ = some (.int .i64 b) ∧ w'.cell? ⟨g_q, 2, none⟩ = some (.int .i64 c) ∧ w'.cell? ⟨g_q, 3, none⟩ = some (.int .i64 d) ∧ w'.cell? ⟨w.heap.size + 1, 0, none⟩ = some (.int .i64 s.a) ∧ w'.cell? ⟨w.heap.size + 1, 1, none⟩ = some (.int .i64 s.b) ∧ w'.cell? ⟨w.heap.size + 1, 2, none⟩ = some (.int .i64 s.c) ∧ w'.cell? ⟨w.heap.size + 1, 3, none⟩ = some (.int .i64 s.d)) (by kernel_rfl) ⟨(q4c k_q).1.1, (q4c k_q).1.2.1, (q4c k_q).1.2.2.1, (q4c k_q).1.2.2.2, (q4c k_s).1.1, (q4c k_s).1.2.1, (q4c k_s).1.2.2.1, (q4c k_s).1.2.2.2⟩ ?_
      intro hHeld
      obtain ⟨X2, eX, bc⟩ : ∃ X, X = Y1.drew ∧ Below Y1.heap.size Y1 X := ⟨_, rfl, (Below.refl _ _).drew⟩
      rw [← eX] at hHeld ⊢
      replace k_r := bk bc k_r
      replace k_s := bk bc k_s
      replace k_q := bk bc k_q
      replace bw := bst bc bw
      clear eX bc
      refine takx (i := 0) (D := 18) (v := .agg #[.int .i64 a, .int .i64 b, .int .i64 c, .int .i64 d]) rfl rfl (by kernel_rfl) (by kernel_rfl) (by kernel_rfl) (fun _ _ _ h => h) (Or.inl ⟨by rfl, fun W hSw => by (try dsimp only at hSw); go_simp⟩) (by assumption) ?_
      (try simp only [List.setIfInBounds_toArray, List.set_cons_zero, List.set_cons_succ])
      refine takx (i := 1) (D := 19) (v := .agg #[.int .i64 s.a, .int .i64 s.b, .int .i64 s.c, .int .i64 s.d]) rfl rfl (by kernel_rfl) (by kernel_rfl) (by kernel_rfl) (fun _ _ _ h => h) (Or.inl ⟨by rfl, fun W hSw => by (try dsimp only at hSw); go_simp⟩) (by assumption) ?_
      (try simp only [List.setIfInBounds_toArray, List.set_cons_zero, List.set_cons_succ])
      refine wpAnyH_ready (rs := [2, 7]) (by kernel_rfl) (by simp) ?_
      refine (AllReadyH.cons rfl (fun K hK => ?_) (AllReadyH.cons rfl (fun K hK => ?_) AllReadyH.nil))
      · go_simp
        refine (toRect4 s.a s.b s.c s.d _).mono ?_
        rintro e X3 ⟨rfl, bc⟩
        refine hK.out _ _ ⟨ck bc hHeld.1, ck bc hHeld.2.1, ck bc hHeld.2.2.1, ck bc hHeld.2.2.2.1, ck bc hHeld.2.2.2.2.1, ck bc hHeld.2.2.2.2.2.1, ck bc hHeld.2.2.2.2.2.2.1, ck bc hHeld.2.2.2.2.2.2.2⟩ (fun hHeld => ?_)
        clear hK K
        (try simp only [List.setIfInBounds_toArray, List.set_cons_zero, List.set_cons_succ])
        replace k_r := bk bc k_r
        replace k_s := bk bc k_s
        replace k_q := bk bc k_q
        replace bw := bst bc bw
        clear bc
        refine wpAnyH_ready (rs := [3, 7]) (by kernel_rfl) (by simp) ?_
        refine (AllReadyH.cons rfl (fun K hK => ?_) (AllReadyH.cons rfl (fun K hK => ?_) AllReadyH.nil))
        · go_simp
          refine (common_none ⟨a, b, c, d⟩ s HC.out _).mono ?_
          rintro e X4 ⟨rfl, bc⟩
          refine hK.out _ _ ⟨ck bc hHeld.1, ck bc hHeld.2.1, ck bc hHeld.2.2.1, ck bc hHeld.2.2.2.1, ck bc hHeld.2.2.2.2.1, ck bc hHeld.2.2.2.2.2.1, ck bc hHeld.2.2.2.2.2.2.1, ck bc hHeld.2.2.2.2.2.2.2⟩ (fun hHeld => ?_)
          clear hK K
          (try simp only [List.setIfInBounds_toArray, List.set_cons_zero, List.set_cons_succ])
          replace k_r := bk bc k_r
          replace k_s := bk bc k_s
          replace k_q := bk bc k_q
          replace bw := bst bc bw
          clear bc
          refine takx (i := 4) (D := 17) (v := .tuple #[.agg #[.int .i64 0, .int .i64 0, .int .i64 0, .int .i64 0], .bool false]) rfl rfl (by kernel_rfl) (by kernel_rfl) (by kernel_rfl) (fun _ _ _ h => h) (Or.inl ⟨by rfl, fun W hSw => by (try dsimp only at hSw); go_simp⟩) (by assumption) ?_
          (try simp only [List.setIfInBounds_toArray, List.set_cons_zero, List.set_cons_succ])
          refine takx (i := 5) (D := 22) (v := .agg #[.int .i64 0, .int .i64 0, .int .i64 0, .int .i64 0]) rfl rfl (by kernel_rfl) (by kernel_rfl) (by kernel_rfl) (fun _ _ _ h => h) (Or.inl ⟨by rfl, fun W hSw => by (try dsimp only at hSw); go_simp⟩) (by assumption) ?_
          (try simp only [List.setIfInBounds_toArray, List.set_cons_zero, List.set_cons_succ])
          refine takx (i := 6) (D := 23) (v := .bool false) rfl rfl (by kernel_rfl) (by kernel_rfl) (by kernel_rfl) (fun _ _ _ h => h) (Or.inl ⟨by rfl, fun W hSw => by (try dsimp only at hSw); go_simp⟩) (by assumption) ?_
          (try simp only [List.setIfInBounds_toArray, List.set_cons_zero, List.set_cons_succ])
          refine wpAnyH_ready (rs := [7]) (by kernel_rfl) (by simp) ?_
          refine (AllReadyH.cons rfl (fun K hK => ?_) AllReadyH.nil)
          go_simp
          refine hK.out _ _ ⟨cka hHeld.1, cka hHeld.2.1, cka hHeld.2.2.1, cka hHeld.2.2.2.1, cka hHeld.2.2.2.2.1, cka hHeld.2.2.2.2.2.1, cka hHeld.2.2.2.2.2.2.1, cka hHeld.2.2.2.2.2.2.2⟩ (fun hHeld => ?_)
          clear hK K
          (try simp only [List.setIfInBounds_toArray, List.set_cons_zero, List.set_cons_succ])
          obtain ⟨X5, g5, eY, eg⟩ : ∃ Y g, Y = X4.alloc (.cells #[.int .i64 0, .int .i64 0, .int .i64 0, .int .i64 0] 25) ∧ g = X4.heap.size := ⟨_, _, rfl, rfl⟩
          rw [← eY, ← eg]
          rw [← eY] at hHeld
          have bc : Below X4.heap.size X4 X5 := by rw [eY]; exact (Below.refl _ _).alloc (Nat.le_refl _) _
          have k_n8 : X5.heap[g5]? = some (.cells #[.int .i64 0, .int .i64 0, .int .i64 0, .int .i64 0] 25 (0, 0)) := by rw [eY, eg]; exact heap_alloc_new X4 _
          have lo_n8 : w.heap.size ≤ g5 := by rw [eg]; exact bw.size
          have ne_r_n8 : ¬ w.heap.size = g5 := ne_new k_r eg
          have ne_s_n8 : ¬ w.heap.size + 1 = g5 := ne_new k_s eg
          have ne_q_n8 : ¬ g_q = g5 := ne_new k_q eg
          replace k_r := bk bc k_r
          replace k_s := bk bc k_s
          replace k_q := bk bc k_q
          replace bw := bst bc bw
          clear bc eY eg
          refine wpAnyH_ready (rs := [8]) (by kernel_rfl) (by simp) ?_
          refine (AllReadyH.cons rfl (fun K hK => ?_) AllReadyH.nil)
          have qq := q4c k_n8
          go_simp
          clear qq
          refine hK.out _ _ ⟨(cks ne_q_n8 (cks ne_q_n8 (cks ne_q_n8 (cks ne_q_n8 hHeld.1)))), (cks ne_q_n8 (cks ne_q_n8 (cks ne_q_n8 (cks ne_q_n8 hHeld.2.1)))), (cks ne_q_n8 (cks ne_q_n8 (cks ne_q_n8 (cks ne_q_n8 hHeld.2.2.1)))), (cks ne_q_n8 (cks ne_q_n8 (cks ne_q_n8 (cks ne_q_n8 hHeld.2.2.2.1)))), (cks ne_s_n8 (cks ne_s_n8 (cks ne_s_n8 (cks ne_s_n8 hHeld.2.2.2.2.1)))), (cks ne_s_n8 (cks ne_s_n8 (cks ne_s_n8 (cks ne_s_n8 hHeld.2.2.2.2.2.1)))), (cks ne_s_n8 (cks ne_s_n8 (cks ne_s_n8 (cks ne_s_n8 hHeld.2.2.2.2.2.2.1)))), (cks ne_s_n8 (cks ne_s_n8 (cks ne_s_n8 (cks ne_s_n8 hHeld.2.2.2.2.2.2.2))))⟩ (fun hHeld => ?_)
          clear hK K
          (try simp only [List.setIfInBounds_toArray, List.set_cons_zero, List.set_cons_succ])
          obtain ⟨X6, eY⟩ : ∃ Y, Y = ((((X5.setCell ⟨g5, 0, none⟩ (.int .i64 0)).setCell ⟨g5, 1, none⟩ (.int .i64 0)).setCell ⟨g5, 2, none⟩ (.int .i64 0)).setCell ⟨g5, 3, none⟩ (.int .i64 0)) := ⟨_, rfl⟩
          rw [← eY] at hHeld ⊢
          replace k_r : X6.heap[w.heap.size]? = some (.cells #[.int .i64 a, .int .i64 b, .int .i64 c, .int .i64 d] 23 (0, 0)) := by rw [eY]; exact (bks ne_r_n8 (bks ne_r_n8 (bks ne_r_n8 (bks ne_r_n8 k_r))))
          replace k_s : X6.heap[w.heap.size + 1]? = some (.cells #[.int .i64 s.a, .int .i64 s.b, .int .i64 s.c, .int .i64 s.d] 23 (0, 0)) := by rw [eY]; exact (bks ne_s_n8 (bks ne_s_n8 (bks ne_s_n8 (bks ne_s_n8 k_s))))
          replace k_q : X6.heap[g_q]? = some (.cells #[.int .i64 a, .int .i64 b, .int .i64 c, .int .i64 d] 25 (0, 0)) := by rw [eY]; exact (bks ne_q_n8 (bks ne_q_n8 (bks ne_q_n8 (bks ne_q_n8 k_q))))
          replace bw : Below w.heap.size w X6 := by rw [eY]; exact (bss lo_n8 (bss lo_n8 (bss lo_n8 (bss lo_n8 bw))))
          replace k_n8 : X6.heap[g5]? = some (.cells #[.int .i64 0, .int .i64 0, .int .i64 0, .int .i64 0] 25 (0, 0)) := by rw [eY]; exact q4s k_n8
          clear eY
          refine takx (i := 9) (D := 9) (v := .bool false) rfl rfl (by kernel_rfl) (by kernel_rfl) (by kernel_rfl) (fun _ _ _ h => h) (Or.inl ⟨by rfl, fun W hSw => by (try dsimp only at hSw); go_simp⟩) (by assumption) ?_
          (try simp only [List.setIfInBounds_toArray, List.set_cons_zero, List.set_cons_succ])
          refine wpAnyH_done (by kernel_rfl) ?_ _
          go_wp2_with fail
          go_meet
          exact ⟨_, rfl, rfl, k_n8, k_r, k_s, k_q, bw⟩
        · go_simp
          refine hK.out _ _ ⟨cka hHeld.1, cka hHeld.2.1, cka hHeld.2.2.1, cka hHeld.2.2.2.1, cka hHeld.2.2.2.2.1, cka hHeld.2.2.2.2.2.1, cka hHeld.2.2.2.2.2.2.1, cka hHeld.2.2.2.2.2.2.2⟩ (fun hHeld => ?_)
          clear hK K
          (try simp only [List.setIfInBounds_toArray, List.set_cons_zero, List.set_cons_succ])
          obtain ⟨X7, g7, eY, eg⟩ : ∃ Y g, Y = X3.alloc (.cells #[.int .i64 0, .int .i64 0, .int .i64 0, .int .i64 0] 25) ∧ g = X3.heap.size := ⟨_, _, rfl, rfl⟩
          rw [← eY, ← eg]
          rw [← eY] at hHeld
          have bc : Below X3.heap.size X3 X7 := by rw [eY]; exact (Below.refl _ _).alloc (Nat.le_refl _) _
          have k_n8 : X7.heap[g7]? = some (.cells #[.int .i64 0, .int .i64 0, .int .i64 0, .int .i64 0] 25 (0, 0)) := by rw [eY, eg]; exact heap_alloc_new X3 _
          have lo_n8 : w.heap.size ≤ g7 := by rw [eg]; exact bw.size
          have ne_r_n8 : ¬ w.heap.size = g7 := ne_new k_r eg
          have ne_s_n8 : ¬ w.heap.size + 1 = g7 := ne_new k_s eg
          have ne_q_n8 : ¬ g_q = g7 := ne_new k_q eg
          replace k_r := bk bc k_r
          replace k_s := bk bc k_s
          replace k_q := bk bc k_q
          replace bw := bst bc bw
          clear bc eY eg
          refine wpAnyH_ready (rs := [3]) (by kernel_rfl) (by simp) ?_
          refine (AllReadyH.cons rfl (fun K hK => ?_) AllReadyH.nil)
          go_simp
          refine (common_none ⟨a, b, c, d⟩ s HC.out _).mono ?_
          rintro e X8 ⟨rfl, bc⟩
          refine hK.out _ _ ⟨ck bc hHeld.1, ck bc hHeld.2.1, ck bc hHeld.2.2.1, ck bc hHeld.2.2.2.1, ck bc hHeld.2.2.2.2.1, ck bc hHeld.2.2.2.2.2.1, ck bc hHeld.2.2.2.2.2.2.1, ck bc hHeld.2.2.2.2.2.2.2⟩ (fun hHeld => ?_)
          clear hK K
          (try simp only [List.setIfInBounds_toArray, List.set_cons_zero, List.set_cons_succ])
          replace k_r := bk bc k_r
          replace k_s := bk bc k_s
          replace k_q := bk bc k_q
          replace k_n8 := bk bc k_n8
          replace bw := bst bc bw
          clear bc
          refine takx (i := 4) (D := 17) (v := .tuple #[.agg #[.int .i64 0, .int .i64 0, .int .i64 0, .int .i64 0], .bool false]) rfl rfl (by kernel_rfl) (by kernel_rfl) (by kernel_rfl) (fun _ _ _ h => h) (Or.inl ⟨by rfl, fun W hSw => by (try dsimp only at hSw); go_simp⟩) (by assumption) ?_
          (try simp only [List.setIfInBounds_toArray, List.set_cons_zero, List.set_cons_succ])
          refine takx (i := 5) (D := 22) (v := .agg #[.int .i64 0, .int .i64 0, .int .i64 0, .int .i64 0]) rfl rfl (by kernel_rfl) (by kernel_rfl) (by kernel_rfl) (fun _ _ _ h => h) (Or.inl ⟨by rfl, fun W hSw => by (try dsimp only at hSw); go_simp⟩) (by assumption) ?_
          (try simp only [List.setIfInBounds_toArray, List.set_cons_zero, List.set_cons_succ])
          refine takx (i := 6) (D := 23) (v := .bool false) rfl rfl (by kernel_rfl) (by kernel_rfl) (by kernel_rfl) (fun _ _ _ h => h) (Or.inl ⟨by rfl, fun W hSw => by (try dsimp only at hSw); go_simp⟩) (by assumption) ?_
          (try simp only [List.setIfInBounds_toArray, List.set_cons_zero, List.set_cons_succ])
          refine wpAnyH_ready (rs := [8]) (by kernel_rfl) (by simp) ?_
          refine (AllReadyH.cons rfl (fun K hK => ?_) AllReadyH.nil)
          have qq := q4c k_n8
          go_simp
          clear qq
          refine hK.out _ _ ⟨(cks ne_q_n8 (cks ne_q_n8 (cks ne_q_n8 (cks ne_q_n8 hHeld.1)))), (cks ne_q_n8 (cks ne_q_n8 (cks ne_q_n8 (cks ne_q_n8 hHeld.2.1)))), (cks ne_q_n8 (cks ne_q_n8 (cks ne_q_n8 (cks ne_q_n8 hHeld.2.2.1)))), (cks ne_q_n8 (cks ne_q_n8 (cks ne_q_n8 (cks ne_q_n8 hHeld.2.2.2.1)))), (cks ne_s_n8 (cks ne_s_n8 (cks ne_s_n8 (cks ne_s_n8 hHeld.2.2.2.2.1)))), (cks ne_s_n8 (cks ne_s_n8 (cks ne_s_n8 (cks ne_s_n8 hHeld.2.2.2.2.2.1)))), (cks ne_s_n8 (cks ne_s_n8 (cks ne_s_n8 (cks ne_s_n8 hHeld.2.2.2.2.2.2.1)))), (cks ne_s_n8 (cks ne_s_n8 (cks ne_s_n8 (cks ne_s_n8 hHeld.2.2.2.2.2.2.2))))⟩ (fun hHeld => ?_)
          clear hK K
          (try simp only [List.setIfInBounds_toArray, List.set_cons_zero, List.set_cons_succ])
          obtain ⟨X9, eY⟩ : ∃ Y, Y = ((((X8.setCell ⟨g7, 0, none⟩ (.int .i64 0)).setCell ⟨g7, 1, none⟩ (.int .i64 0)).setCell ⟨g7, 2, none⟩ (.int .i64 0)).setCell ⟨g7, 3, none⟩ (.int .i64 0)) := ⟨_, rfl⟩
          rw [← eY] at hHeld ⊢
          replace k_r : X9.heap[w.heap.size]? = some (.cells #[.int .i64 a, .int .i64 b, .int .i64 c, .int .i64 d] 23 (0, 0)) := by rw [eY]; exact (bks ne_r_n8 (bks ne_r_n8 (bks ne_r_n8 (bks ne_r_n8 k_r))))
          replace k_s : X9.heap[w.heap.size + 1]? = some (.cells #[.int .i64 s.a, .int .i64 s.b, .int .i64 s.c, .int .i64 s.d] 23 (0, 0)) := by rw [eY]; exact (bks ne_s_n8 (bks ne_s_n8 (bks ne_s_n8 (bks ne_s_n8 k_s))))
          replace k_q : X9.heap[g_q]? = some (.cells #[.int .i64 a, .int .i64 b, .int .i64 c, .int .i64 d] 25 (0, 0)) := by rw [eY]; exact (bks ne_q_n8 (bks ne_q_n8 (bks ne_q_n8 (bks ne_q_n8 k_q))))
          replace bw : Below w.heap.size w X9 := by rw [eY]; exact (bss lo_n8 (bss lo_n8 (bss lo_n8 (bss lo_n8 bw))))
          replace k_n8 : X9.heap[g7]? = some (.cells #[.int .i64 0, .int .i64 0, .int .i64 0, .int .i64 0] 25 (0, 0)) := by rw [eY]; exact q4s k_n8
          clear eY
          refine takx (i := 9) (D := 9) (v := .bool false) rfl rfl (by kernel_rfl) (by kernel_rfl) (by kernel_rfl) (fun _ _ _ h => h) (Or.inl ⟨by rfl, fun W hSw => by (try dsimp only at hSw); go_simp⟩) (by assumption) ?_
          (try simp only [List.setIfInBounds_toArray, List.set_cons_zero, List.set_cons_succ])
          refine wpAnyH_done (by kernel_rfl) ?_ _
          go_wp2_with fail
          go_meet
          exact ⟨_, rfl, rfl, k_n8, k_r, k_s, k_q, bw⟩
      · go_simp
        refine hK.out _ _ ⟨cka hHeld.1, cka hHeld.2.1, cka hHeld.2.2.1, cka hHeld.2.2.2.1, cka hHeld.2.2.2.2.1, cka hHeld.2.2.2.2.2.1, cka hHeld.2.2.2.2.2.2.1, cka hHeld.2.2.2.2.2.2.2⟩ (fun hHeld => ?_)
        clear hK K
        (try simp only [List.setIfInBounds_toArray, List.set_cons_zero, List.set_cons_succ])
        obtain ⟨X10, g10, eY, eg⟩ : ∃ Y g, Y = X2.alloc (.cells #[.int .i64 0, .int .i64 0, .int .i64 0, .int .i64 0] 25) ∧ g = X2.heap.size := ⟨_, _, rfl, rfl⟩
        rw [← eY, ← eg]
        rw [← eY] at hHeld
        have bc : Below X2.heap.size X2 X10 := by rw [eY]; exact (Below.refl _ _).alloc (Nat.le_refl _) _
        have k_n8 : X10.heap[g10]? = some (.cells #[.int .i64 0, .int .i64 0, .int .i64 0, .int .i64 0] 25 (0, 0)) := by rw [eY, eg]; exact heap_alloc_new X2 _
        have lo_n8 : w.heap.size ≤ g10 := by rw [eg]; exact bw.size
        have ne_r_n8 : ¬ w.heap.size = g10 := ne_new k_r eg
        have ne_s_n8 : ¬ w.heap.size + 1 = g10 := ne_new k_s eg
        have ne_q_n8 : ¬ g_q = g10 := ne_new k_q eg
        replace k_r := bk bc k_r
        replace k_s := bk bc k_s
        replace k_q := bk bc k_q
        replace bw := bst bc bw
        clear bc eY eg
        refine wpAnyH_ready (rs := [2]) (by kernel_rfl) (by simp) ?_
        refine (AllReadyH.cons rfl (fun K hK => ?_) AllReadyH.nil)
        go_simp
        refine (toRect4 s.a s.b s.c s.d _).mono ?_
        rintro e X11 ⟨rfl, bc⟩
        refine hK.out _ _ ⟨ck bc hHeld.1, ck bc hHeld.2.1, ck bc hHeld.2.2.1, ck bc hHeld.2.2.2.1, ck bc hHeld.2.2.2.2.1, ck bc hHeld.2.2.2.2.2.1, ck bc hHeld.2.2.2.2.2.2.1, ck bc hHeld.2.2.2.2.2.2.2⟩ (fun hHeld => ?_)
        clear hK K
        (try simp only [List.setIfInBounds_toArray, List.set_cons_zero, List.set_cons_succ])
        replace k_r := bk bc k_r
        replace k_s := bk bc k_s
        replace k_q := bk bc k_q
        replace k_n8 := bk bc k_n8
        replace bw := bst bc bw
        clear bc
        refine wpAnyH_ready (rs := [3]) (by kernel_rfl) (by simp) ?_
        refine (AllReadyH.cons rfl (fun K hK => ?_) AllReadyH.nil)
        go_simp
        refine (common_none ⟨a, b, c, d⟩ s HC.out _).mono ?_
        rintro e X12 ⟨rfl, bc⟩
        refine hK.out _ _ ⟨ck bc hHeld.1, ck bc hHeld.2.1, ck bc hHeld.2.2.1, ck bc hHeld.2.2.2.1, ck bc hHeld.2.2.2.2.1, ck bc hHeld.2.2.2.2.2.1, ck bc hHeld.2.2.2.2.2.2.1, ck bc hHeld.2.2.2.2.2.2.2⟩ (fun hHeld => ?_)
        clear hK K
        (try simp only [List.setIfInBounds_toArray, List.set_cons_zero, List.set_cons_succ])
        replace k_r := bk bc k_r
        replace k_s := bk bc k_s
        replace k_q := bk bc k_q
        replace k_n8 := bk bc k_n8
        replace bw := bst bc bw
        clear bc
        refine takx (i := 4) (D := 17) (v := .tuple #[.agg #[.int .i64 0, .int .i64 0, .int .i64 0, .int .i64 0], .bool false]) rfl rfl (by kernel_rfl) (by kernel_rfl) (by kernel_rfl) (fun _ _ _ h => h) (Or.inl ⟨by rfl, fun W hSw => by (try dsimp only at hSw); go_simp⟩) (by assumption) ?_
        (try simp only [List.setIfInBounds_toArray, List.set_cons_zero, List.set_cons_succ])
        refine takx (i := 5) (D := 22) (v := .agg #[.int .i64 0, .int .i64 0, .int .i64 0, .int .i64 0]) rfl rfl (by kernel_rfl) (by kernel_rfl) (by kernel_rfl) (fun _ _ _ h => h) (Or.inl ⟨by rfl, fun W hSw => by (try dsimp only at hSw); go_simp⟩) (by assumption) ?_
        (try simp only [List.setIfInBounds_toArray, List.set_cons_zero, List.set_cons_succ])
        refine takx (i := 6) (D := 23) (v := .bool false) rfl rfl (by kernel_rfl) (by kernel_rfl) (by kernel_rfl) (fun _ _ _ h => h) (Or.inl ⟨by rfl, fun W hSw => by (try dsimp only at hSw); go_simp⟩) (by assumption) ?_
        (try simp only [List.setIfInBounds_toArray, List.set_cons_zero, List.set_cons_succ])
        refine wpAnyH_ready (rs := [8]) (by kernel_rfl) (by simp) ?_
        refine (AllReadyH.cons rfl (fun K hK => ?_) AllReadyH.nil)
        have qq := q4c k_n8
        go_simp
        clear qq
        refine hK.out _ _ ⟨(cks ne_q_n8 (cks ne_q_n8 (cks ne_q_n8 (cks ne_q_n8 hHeld.1)))), (cks ne_q_n8 (cks ne_q_n8 (cks ne_q_n8 (cks ne_q_n8 hHeld.2.1)))), (cks ne_q_n8 (cks ne_q_n8 (cks ne_q_n8 (cks ne_q_n8 hHeld.2.2.1)))), (cks ne_q_n8 (cks ne_q_n8 (cks ne_q_n8 (cks ne_q_n8 hHeld.2.2.2.1)))), (cks ne_s_n8 (cks ne_s_n8 (cks ne_s_n8 (cks ne_s_n8 hHeld.2.2.2.2.1)))), (cks ne_s_n8 (cks ne_s_n8 (cks ne_s_n8 (cks ne_s_n8 hHeld.2.2.2.2.2.1)))), (cks ne_s_n8 (cks ne_s_n8 (cks ne_s_n8 (cks ne_s_n8 hHeld.2.2.2.2.2.2.1)))), (cks ne_s_n8 (cks ne_s_n8 (cks ne_s_n8 (cks ne_s_n8 hHeld.2.2.2.2.2.2.2))))⟩ (fun hHeld => ?_)
        clear hK K
        (try simp only [List.setIfInBounds_toArray, List.set_cons_zero, List.set_cons_succ])
        obtain ⟨X13, eY⟩ : ∃ Y, Y = ((((X12.setCell ⟨g10, 0, none⟩ (.int .i64 0)).setCell ⟨g10, 1, none⟩ (.int .i64 0)).setCell ⟨g10, 2, none⟩ (.int .i64 0)).setCell ⟨g10, 3, none⟩ (.int .i64 0)) := ⟨_, rfl⟩
        rw [← eY] at hHeld ⊢
        replace k_r : X13.heap[w.heap.size]? = some (.cells #[.int .i64 a, .int .i64 b, .int .i64 c, .int .i64 d] 23 (0, 0)) := by rw [eY]; exact (bks ne_r_n8 (bks ne_r_n8 (bks ne_r_n8 (bks ne_r_n8 k_r))))
        replace k_s : X13.heap[w.heap.size + 1]? = some (.cells #[.int .i64 s.a, .int .i64 s.b, .int .i64 s.c, .int .i64 s.d] 23 (0, 0)) := by rw [eY]; exact (bks ne_s_n8 (bks ne_s_n8 (bks ne_s_n8 (bks ne_s_n8 k_s))))
        replace k_q : X13.heap[g_q]? = some (.cells #[.int .i64 a, .int .i64 b, .int .i64 c, .int .i64 d] 25 (0, 0)) := by rw [eY]; exact (bks ne_q_n8 (bks ne_q_n8 (bks ne_q_n8 (bks ne_q_n8 k_q))))
        replace bw : Below w.heap.size w X13 := by rw [eY]; exact (bss lo_n8 (bss lo_n8 (bss lo_n8 (bss lo_n8 bw))))
        replace k_n8 : X13.heap[g10]? = some (.cells #[.int .i64 0, .int .i64 0, .int .i64 0, .int .i64 0] 25 (0, 0)) := by rw [eY]; exact q4s k_n8
        clear eY
        refine takx (i := 9) (D := 9) (v := .bool false) rfl rfl (by kernel_rfl) (by kernel_rfl) (by kernel_rfl) (fun _ _ _ h => h) (Or.inl ⟨by rfl, fun W hSw => by (try dsimp only at hSw); go_simp⟩) (by assumption) ?_
        (try simp only [List.setIfInBounds_toArray, List.set_cons_zero, List.set_cons_succ])
        refine wpAnyH_done (by kernel_rfl) ?_ _
        go_wp2_with fail
        go_meet
        exact ⟨_, rfl, rfl, k_n8, k_r, k_s, k_q, bw⟩
    case rest =>
      clear k_r k_s k_q bw
      obtain ⟨g_both, rfl, rfl, k_both, k_r, k_s, k_q, BW⟩ := hcut
      have bw := BW.out
      clear BW
      have q_r := q4c k_r
      have q_s := q4c k_s
      have q_q := q4c k_q
      have q_both := q4c k_both
      go_wp2_with fail
      refine (fine_yes a b c d HF.out _).mono ?_
      rintro e Y15 ⟨rfl, bc⟩
      clear q_r q_s q_q q_both
      replace k_r := bk bc k_r
      replace k_s := bk bc k_s
      replace k_q := bk bc k_q
      replace k_both := bk bc k_both
      replace bw := bst bc bw
      clear bc
      go_wp2
      go_ret
      first | exact ⟨rfl, bw⟩ | exact ⟨trivial, bw⟩
  | some t =>
    have HC := Lib.hid hc0
    clear hc0
    obtain ⟨ht1, ht2, hL⟩ := (com_some HC.out).2
    have hlq := hL
    obtain ⟨l1, l2, l3, l4⟩ := hlq
    dsimp only at l1 l2 l3 l4
    have hbd := HF.out
    unfold Fine at hbd
    have hfi : In a b c d t.a t.b := ⟨l1, by omega, l3, by omega⟩
    obtain ⟨o, ho, hoN⟩ := place_lt HN.out hfi
    obtain ⟨nl, hnl⟩ : ∃ nl, N = o + nl := ⟨N - o, by omega⟩
    have hn0 : 0 < nl := by omega
    have HO := Lib.hid ho
    have HL := Lib.hid hL
    have kN := area_le h3 h4 h5 h6 HN.out
    have tI : -4611686018427387904 ≤ t.a ∧ t.c ≤ 4611686018427387904 ∧ -4611686018427387904 ≤ t.b ∧ t.d ≤ 4611686018427387904 := by omega
    obtain ⟨tI1, tI2, tI3, tI4⟩ := tI
    have knl : nl ≤ 4000000 := by omega
    have HNL := Lib.hid hnl
    clear ho hL hoN hfi hbd hnl
    go_enter Try.func3, Try.ntmps3
    go_wp2_with fail
    refine (toRect4 a b c d _).mono ?_
    rintro e w1 ⟨rfl, bc⟩
    have bw := bst bc (bsa (bsa (Below.refl _ _)))
    have k_r : w1.heap[w.heap.size]? = some (.cells #[.int .i64 a, .int .i64 b, .int .i64 c, .int .i64 d] 23 (0, 0)) := by have := bk bc (bka (heap_alloc_new w _)); simpa using this
    have k_s : w1.heap[w.heap.size + 1]? = some (.cells #[.int .i64 s.a, .int .i64 s.b, .int .i64 s.c, .int .i64 s.d] 23 (0, 0)) := by have := bk bc (heap_alloc_new (w.alloc (.cells #[.int .i64 a, .int .i64 b, .int .i64 c, .int .i64 d] 23)) _); simpa using this
    clear bc
    go_upto_region 2 with fail
    obtain ⟨Y1, g_q, eY, eg⟩ : ∃ Y g, Y = w1.alloc (.cells #[.int .i64 a, .int .i64 b, .int .i64 c, .int .i64 d] 25) ∧ g = w1.heap.size := ⟨_, _, rfl, rfl⟩
    rw [← eY, ← eg]
    have bc : Below w1.heap.size w1 Y1 := by rw [eY]; exact (Below.refl _ _).alloc (Nat.le_refl _) _
    have k_q : Y1.heap[g_q]? = some (.cells #[.int .i64 a, .int .i64 b, .int .i64 c, .int .i64 d] 25 (0, 0)) := by rw [eY, eg]; exact heap_alloc_new w1 _
    replace k_r := bk bc k_r
    replace k_s := bk bc k_s
    replace bw := bst bc bw
    clear bc eY eg
    go_cut [8, 9] (fun s8 s9 wx => ∃ (g_both : Nat), s8 = .pointer (some ⟨g_both, 0, none⟩) ∧ s9 = .bool true ∧ wx.heap[g_both]? = some (.cells #[.int .i64 t.a, .int .i64 t.b, .int .i64 t.c, .int .i64 t.d] 25 (0, 0)) ∧ wx.heap[w.heap.size]? = some (.cells #[.int .i64 a, .int .i64 b, .int .i64 c, .int .i64 d] 23 (0, 0)) ∧ wx.heap[w.heap.size + 1]? = some (.cells #[.int .i64 s.a, .int .i64 s.b, .int .i64 s.c, .int .i64 s.d] 23 (0, 0)) ∧ wx.heap[g_q]? = some (.cells #[.int .i64 a, .int .i64 b, .int .i64 c, .int .i64 d] 25 (0, 0)) ∧ Hid (Below w.heap.size w wx))
    case first =>
      refine wp_region_held_drew (S := fun w' => w'.cell? ⟨g_q, 0, none⟩ = some (.int .i64 a) ∧ w'.cell? ⟨g_q, 1, none⟩ = some (.int .i64 b) ∧ w'.cell? ⟨g_q, 2, none⟩ = some (.int .i64 c) ∧ w'.cell? ⟨g_q, 3, none⟩ = some (.int .i64 d) ∧ w'.cell? ⟨w.heap.size + 1, 0, none⟩ = some (.int .i64 s.a) ∧ w'.cell? ⟨w.heap.size + 1, 1, none⟩ = some (.int .i64 s.b) ∧ w'.cell? ⟨w.heap.size + 1, 2, none⟩ = some (.int .i64 s.c) ∧ w'.cell? ⟨w.heap.size + 1, 3, none⟩ = some (.int .i64 s.d)) (by kernel_rfl) ⟨(q4c k_q).1.1, (q4c k_q).1.2.1, (q4c k_q).1.2.2.1, (q4c k_q).1.2.2.2, (q4c k_s).1.1, (q4c k_s).1.2.1, (q4c k_s).1.2.2.1, (q4c k_s).1.2.2.2⟩ ?_
      intro hHeld
      obtain ⟨X2, eX, bc⟩ : ∃ X, X = Y1.drew ∧ Below Y1.heap.size Y1 X := ⟨_, rfl, (Below.refl _ _).drew⟩
      rw [← eX] at hHeld ⊢
      replace k_r := bk bc k_r
      replace k_s := bk bc k_s
      replace k_q := bk bc k_q
      replace bw := bst bc bw
      clear eX bc
      refine takx (i := 0) (D := 18) (v := .agg #[.int .i64 a, .int .i64 b, .int .i64 c, .int .i64 d]) rfl rfl (by kernel_rfl) (by kernel_rfl) (by kernel_rfl) (fun _ _ _ h => h) (Or.inl ⟨by rfl, fun W hSw => by (try dsimp only at hSw); go_simp⟩) (by assumption) ?_
      (try simp only [List.setIfInBounds_toArray, List.set_cons_zero, List.set_cons_succ])
      refine takx (i := 1) (D := 19) (v := .agg #[.int .i64 s.a, .int .i64 s.b, .int .i64 s.c, .int .i64 s.d]) rfl rfl (by kernel_rfl) (by kernel_rfl) (by kernel_rfl) (fun _ _ _ h => h) (Or.inl ⟨by rfl, fun W hSw => by (try dsimp only at hSw); go_simp⟩) (by assumption) ?_
      (try simp only [List.setIfInBounds_toArray, List.set_cons_zero, List.set_cons_succ])
      refine wpAnyH_ready (rs := [2, 7]) (by kernel_rfl) (by simp) ?_
      refine (AllReadyH.cons rfl (fun K hK => ?_) (AllReadyH.cons rfl (fun K hK => ?_) AllReadyH.nil))
      · go_simp
        refine (toRect4 s.a s.b s.c s.d _).mono ?_
        rintro e X3 ⟨rfl, bc⟩
        refine hK.out _ _ ⟨ck bc hHeld.1, ck bc hHeld.2.1, ck bc hHeld.2.2.1, ck bc hHeld.2.2.2.1, ck bc hHeld.2.2.2.2.1, ck bc hHeld.2.2.2.2.2.1, ck bc hHeld.2.2.2.2.2.2.1, ck bc hHeld.2.2.2.2.2.2.2⟩ (fun hHeld => ?_)
        clear hK K
        (try simp only [List.setIfInBounds_toArray, List.set_cons_zero, List.set_cons_succ])
        replace k_r := bk bc k_r
        replace k_s := bk bc k_s
        replace k_q := bk bc k_q
        replace bw := bst bc bw
        clear bc
        refine wpAnyH_ready (rs := [3, 7]) (by kernel_rfl) (by simp) ?_
        refine (AllReadyH.cons rfl (fun K hK => ?_) (AllReadyH.cons rfl (fun K hK => ?_) AllReadyH.nil))
        · go_simp
          refine (common_some ⟨a, b, c, d⟩ s t HC.out _).mono ?_
          rintro e X4 ⟨rfl, bc⟩
          refine hK.out _ _ ⟨ck bc hHeld.1, ck bc hHeld.2.1, ck bc hHeld.2.2.1, ck bc hHeld.2.2.2.1, ck bc hHeld.2.2.2.2.1, ck bc hHeld.2.2.2.2.2.1, ck bc hHeld.2.2.2.2.2.2.1, ck bc hHeld.2.2.2.2.2.2.2⟩ (fun hHeld => ?_)
          clear hK K
          (try simp only [List.setIfInBounds_toArray, List.set_cons_zero, List.set_cons_succ])
          replace k_r := bk bc k_r
          replace k_s := bk bc k_s
          replace k_q := bk bc k_q
          replace bw := bst bc bw
          clear bc
          refine takx (i := 4) (D := 17) (v := .tuple #[.agg #[.int .i64 t.a, .int .i64 t.b, .int .i64 t.c, .int .i64 t.d], .bool true]) rfl rfl (by kernel_rfl) (by kernel_rfl) (by kernel_rfl) (fun _ _ _ h => h) (Or.inl ⟨by rfl, fun W hSw => by (try dsimp only at hSw); go_simp⟩) (by assumption) ?_
          (try simp only [List.setIfInBounds_toArray, List.set_cons_zero, List.set_cons_succ])
          refine takx (i := 5) (D := 22) (v := .agg #[.int .i64 t.a, .int .i64 t.b, .int .i64 t.c, .int .i64 t.d]) rfl rfl (by kernel_rfl) (by kernel_rfl) (by kernel_rfl) (fun _ _ _ h => h) (Or.inl ⟨by rfl, fun W hSw => by (try dsimp only at hSw); go_simp⟩) (by assumption) ?_
          (try simp only [List.setIfInBounds_toArray, List.set_cons_zero, List.set_cons_succ])
          refine takx (i := 6) (D := 23) (v := .bool true) rfl rfl (by kernel_rfl) (by kernel_rfl) (by kernel_rfl) (fun _ _ _ h => h) (Or.inl ⟨by rfl, fun W hSw => by (try dsimp only at hSw); go_simp⟩) (by assumption) ?_
          (try simp only [List.setIfInBounds_toArray, List.set_cons_zero, List.set_cons_succ])
          refine wpAnyH_ready (rs := [7]) (by kernel_rfl) (by simp) ?_
          refine (AllReadyH.cons rfl (fun K hK => ?_) AllReadyH.nil)
          go_simp
          refine hK.out _ _ ⟨cka hHeld.1, cka hHeld.2.1, cka hHeld.2.2.1, cka hHeld.2.2.2.1, cka hHeld.2.2.2.2.1, cka hHeld.2.2.2.2.2.1, cka hHeld.2.2.2.2.2.2.1, cka hHeld.2.2.2.2.2.2.2⟩ (fun hHeld => ?_)
          clear hK K
          (try simp only [List.setIfInBounds_toArray, List.set_cons_zero, List.set_cons_succ])
          obtain ⟨X5, g5, eY, eg⟩ : ∃ Y g, Y = X4.alloc (.cells #[.int .i64 0, .int .i64 0, .int .i64 0, .int .i64 0] 25) ∧ g = X4.heap.size := ⟨_, _, rfl, rfl⟩
          rw [← eY, ← eg]
          rw [← eY] at hHeld
          have bc : Below X4.heap.size X4 X5 := by rw [eY]; exact (Below.refl _ _).alloc (Nat.le_refl _) _
          have k_n8 : X5.heap[g5]? = some (.cells #[.int .i64 0, .int .i64 0, .int .i64 0, .int .i64 0] 25 (0, 0)) := by rw [eY, eg]; exact heap_alloc_new X4 _
          have lo_n8 : w.heap.size ≤ g5 := by rw [eg]; exact bw.size
          have ne_r_n8 : ¬ w.heap.size = g5 := ne_new k_r eg
          have ne_s_n8 : ¬ w.heap.size + 1 = g5 := ne_new k_s eg
          have ne_q_n8 : ¬ g_q = g5 := ne_new k_q eg
          replace k_r := bk bc k_r
          replace k_s := bk bc k_s
          replace k_q := bk bc k_q
          replace bw := bst bc bw
          clear bc eY eg
          refine wpAnyH_ready (rs := [8]) (by kernel_rfl) (by simp) ?_
          refine (AllReadyH.cons rfl (fun K hK => ?_) AllReadyH.nil)
          have qq := q4c k_n8
          go_simp
          clear qq
          refine hK.out _ _ ⟨(cks ne_q_n8 (cks ne_q_n8 (cks ne_q_n8 (cks ne_q_n8 hHeld.1)))), (cks ne_q_n8 (cks ne_q_n8 (cks ne_q_n8 (cks ne_q_n8 hHeld.2.1)))), (cks ne_q_n8 (cks ne_q_n8 (cks ne_q_n8 (cks ne_q_n8 hHeld.2.2.1)))), (cks ne_q_n8 (cks ne_q_n8 (cks ne_q_n8 (cks ne_q_n8 hHeld.2.2.2.1)))), (cks ne_s_n8 (cks ne_s_n8 (cks ne_s_n8 (cks ne_s_n8 hHeld.2.2.2.2.1)))), (cks ne_s_n8 (cks ne_s_n8 (cks ne_s_n8 (cks ne_s_n8 hHeld.2.2.2.2.2.1)))), (cks ne_s_n8 (cks ne_s_n8 (cks ne_s_n8 (cks ne_s_n8 hHeld.2.2.2.2.2.2.1)))), (cks ne_s_n8 (cks ne_s_n8 (cks ne_s_n8 (cks ne_s_n8 hHeld.2.2.2.2.2.2.2))))⟩ (fun hHeld => ?_)
          clear hK K
          (try simp only [List.setIfInBounds_toArray, List.set_cons_zero, List.set_cons_succ])
          obtain ⟨X6, eY⟩ : ∃ Y, Y = ((((X5.setCell ⟨g5, 0, none⟩ (.int .i64 t.a)).setCell ⟨g5, 1, none⟩ (.int .i64 t.b)).setCell ⟨g5, 2, none⟩ (.int .i64 t.c)).setCell ⟨g5, 3, none⟩ (.int .i64 t.d)) := ⟨_, rfl⟩
          rw [← eY] at hHeld ⊢
          replace k_r : X6.heap[w.heap.size]? = some (.cells #[.int .i64 a, .int .i64 b, .int .i64 c, .int .i64 d] 23 (0, 0)) := by rw [eY]; exact (bks ne_r_n8 (bks ne_r_n8 (bks ne_r_n8 (bks ne_r_n8 k_r))))
          replace k_s : X6.heap[w.heap.size + 1]? = some (.cells #[.int .i64 s.a, .int .i64 s.b, .int .i64 s.c, .int .i64 s.d] 23 (0, 0)) := by rw [eY]; exact (bks ne_s_n8 (bks ne_s_n8 (bks ne_s_n8 (bks ne_s_n8 k_s))))
          replace k_q : X6.heap[g_q]? = some (.cells #[.int .i64 a, .int .i64 b, .int .i64 c, .int .i64 d] 25 (0, 0)) := by rw [eY]; exact (bks ne_q_n8 (bks ne_q_n8 (bks ne_q_n8 (bks ne_q_n8 k_q))))
          replace bw : Below w.heap.size w X6 := by rw [eY]; exact (bss lo_n8 (bss lo_n8 (bss lo_n8 (bss lo_n8 bw))))
          replace k_n8 : X6.heap[g5]? = some (.cells #[.int .i64 t.a, .int .i64 t.b, .int .i64 t.c, .int .i64 t.d] 25 (0, 0)) := by rw [eY]; exact q4s k_n8
          clear eY
          refine takx (i := 9) (D := 9) (v := .bool true) rfl rfl (by kernel_rfl) (by kernel_rfl) (by kernel_rfl) (fun _ _ _ h => h) (Or.inl ⟨by rfl, fun W hSw => by (try dsimp only at hSw); go_simp⟩) (by assumption) ?_
          (try simp only [List.setIfInBounds_toArray, List.set_cons_zero, List.set_cons_succ])
          refine wpAnyH_done (by kernel_rfl) ?_ _
          go_wp2_with fail
          go_meet
          exact ⟨_, rfl, rfl, k_n8, k_r, k_s, k_q, bw⟩
        · go_simp
          refine hK.out _ _ ⟨cka hHeld.1, cka hHeld.2.1, cka hHeld.2.2.1, cka hHeld.2.2.2.1, cka hHeld.2.2.2.2.1, cka hHeld.2.2.2.2.2.1, cka hHeld.2.2.2.2.2.2.1, cka hHeld.2.2.2.2.2.2.2⟩ (fun hHeld => ?_)
          clear hK K
          (try simp only [List.setIfInBounds_toArray, List.set_cons_zero, List.set_cons_succ])
          obtain ⟨X7, g7, eY, eg⟩ : ∃ Y g, Y = X3.alloc (.cells #[.int .i64 0, .int .i64 0, .int .i64 0, .int .i64 0] 25) ∧ g = X3.heap.size := ⟨_, _, rfl, rfl⟩
          rw [← eY, ← eg]
          rw [← eY] at hHeld
          have bc : Below X3.heap.size X3 X7 := by rw [eY]; exact (Below.refl _ _).alloc (Nat.le_refl _) _
          have k_n8 : X7.heap[g7]? = some (.cells #[.int .i64 0, .int .i64 0, .int .i64 0, .int .i64 0] 25 (0, 0)) := by rw [eY, eg]; exact heap_alloc_new X3 _
          have lo_n8 : w.heap.size ≤ g7 := by rw [eg]; exact bw.size
          have ne_r_n8 : ¬ w.heap.size = g7 := ne_new k_r eg
          have ne_s_n8 : ¬ w.heap.size + 1 = g7 := ne_new k_s eg
          have ne_q_n8 : ¬ g_q = g7 := ne_new k_q eg
          replace k_r := bk bc k_r
          replace k_s := bk bc k_s
          replace k_q := bk bc k_q
          replace bw := bst bc bw
          clear bc eY eg
          refine wpAnyH_ready (rs := [3]) (by kernel_rfl) (by simp) ?_
          refine (AllReadyH.cons rfl (fun K hK => ?_) AllReadyH.nil)
          go_simp
          refine (common_some ⟨a, b, c, d⟩ s t HC.out _).mono ?_
          rintro e X8 ⟨rfl, bc⟩
          refine hK.out _ _ ⟨ck bc hHeld.1, ck bc hHeld.2.1, ck bc hHeld.2.2.1, ck bc hHeld.2.2.2.1, ck bc hHeld.2.2.2.2.1, ck bc hHeld.2.2.2.2.2.1, ck bc hHeld.2.2.2.2.2.2.1, ck bc hHeld.2.2.2.2.2.2.2⟩ (fun hHeld => ?_)
          clear hK K
          (try simp only [List.setIfInBounds_toArray, List.set_cons_zero, List.set_cons_succ])
          replace k_r := bk bc k_r
          replace k_s := bk bc k_s
          replace k_q := bk bc k_q
          replace k_n8 := bk bc k_n8
          replace bw := bst bc bw
          clear bc
          refine takx (i := 4) (D := 17) (v := .tuple #[.agg #[.int .i64 t.a, .int .i64 t.b, .int .i64 t.c, .int .i64 t.d], .bool true]) rfl rfl (by kernel_rfl) (by kernel_rfl) (by kernel_rfl) (fun _ _ _ h => h) (Or.inl ⟨by rfl, fun W hSw => by (try dsimp only at hSw); go_simp⟩) (by assumption) ?_
          (try simp only [List.setIfInBounds_toArray, List.set_cons_zero, List.set_cons_succ])
          refine takx (i := 5) (D := 22) (v := .agg #[.int .i64 t.a, .int .i64 t.b, .int .i64 t.c, .int .i64 t.d]) rfl rfl (by kernel_rfl) (by kernel_rfl) (by kernel_rfl) (fun _ _ _ h => h) (Or.inl ⟨by rfl, fun W hSw => by (try dsimp only at hSw); go_simp⟩) (by assumption) ?_
          (try simp only [List.setIfInBounds_toArray, List.set_cons_zero, List.set_cons_succ])
          refine takx (i := 6) (D := 23) (v := .bool true) rfl rfl (by kernel_rfl) (by kernel_rfl) (by kernel_rfl) (fun _ _ _ h => h) (Or.inl ⟨by rfl, fun W hSw => by (try dsimp only at hSw); go_simp⟩) (by assumption) ?_
          (try simp only [List.setIfInBounds_toArray, List.set_cons_zero, List.set_cons_succ])
          refine wpAnyH_ready (rs := [8]) (by kernel_rfl) (by simp) ?_
          refine (AllReadyH.cons rfl (fun K hK => ?_) AllReadyH.nil)
          have qq := q4c k_n8
          go_simp
          clear qq
          refine hK.out _ _ ⟨(cks ne_q_n8 (cks ne_q_n8 (cks ne_q_n8 (cks ne_q_n8 hHeld.1)))), (cks ne_q_n8 (cks ne_q_n8 (cks ne_q_n8 (cks ne_q_n8 hHeld.2.1)))), (cks ne_q_n8 (cks ne_q_n8 (cks ne_q_n8 (cks ne_q_n8 hHeld.2.2.1)))), (cks ne_q_n8 (cks ne_q_n8 (cks ne_q_n8 (cks ne_q_n8 hHeld.2.2.2.1)))), (cks ne_s_n8 (cks ne_s_n8 (cks ne_s_n8 (cks ne_s_n8 hHeld.2.2.2.2.1)))), (cks ne_s_n8 (cks ne_s_n8 (cks ne_s_n8 (cks ne_s_n8 hHeld.2.2.2.2.2.1)))), (cks ne_s_n8 (cks ne_s_n8 (cks ne_s_n8 (cks ne_s_n8 hHeld.2.2.2.2.2.2.1)))), (cks ne_s_n8 (cks ne_s_n8 (cks ne_s_n8 (cks ne_s_n8 hHeld.2.2.2.2.2.2.2))))⟩ (fun hHeld => ?_)
          clear hK K
          (try simp only [List.setIfInBounds_toArray, List.set_cons_zero, List.set_cons_succ])
          obtain ⟨X9, eY⟩ : ∃ Y, Y = ((((X8.setCell ⟨g7, 0, none⟩ (.int .i64 t.a)).setCell ⟨g7, 1, none⟩ (.int .i64 t.b)).setCell ⟨g7, 2, none⟩ (.int .i64 t.c)).setCell ⟨g7, 3, none⟩ (.int .i64 t.d)) := ⟨_, rfl⟩
          rw [← eY] at hHeld ⊢
          replace k_r : X9.heap[w.heap.size]? = some (.cells #[.int .i64 a, .int .i64 b, .int .i64 c, .int .i64 d] 23 (0, 0)) := by rw [eY]; exact (bks ne_r_n8 (bks ne_r_n8 (bks ne_r_n8 (bks ne_r_n8 k_r))))
          replace k_s : X9.heap[w.heap.size + 1]? = some (.cells #[.int .i64 s.a, .int .i64 s.b, .int .i64 s.c, .int .i64 s.d] 23 (0, 0)) := by rw [eY]; exact (bks ne_s_n8 (bks ne_s_n8 (bks ne_s_n8 (bks ne_s_n8 k_s))))
          replace k_q : X9.heap[g_q]? = some (.cells #[.int .i64 a, .int .i64 b, .int .i64 c, .int .i64 d] 25 (0, 0)) := by rw [eY]; exact (bks ne_q_n8 (bks ne_q_n8 (bks ne_q_n8 (bks ne_q_n8 k_q))))
          replace bw : Below w.heap.size w X9 := by rw [eY]; exact (bss lo_n8 (bss lo_n8 (bss lo_n8 (bss lo_n8 bw))))
          replace k_n8 : X9.heap[g7]? = some (.cells #[.int .i64 t.a, .int .i64 t.b, .int .i64 t.c, .int .i64 t.d] 25 (0, 0)) := by rw [eY]; exact q4s k_n8
          clear eY
          refine takx (i := 9) (D := 9) (v := .bool true) rfl rfl (by kernel_rfl) (by kernel_rfl) (by kernel_rfl) (fun _ _ _ h => h) (Or.inl ⟨by rfl, fun W hSw => by (try dsimp only at hSw); go_simp⟩) (by assumption) ?_
          (try simp only [List.setIfInBounds_toArray, List.set_cons_zero, List.set_cons_succ])
          refine wpAnyH_done (by kernel_rfl) ?_ _
          go_wp2_with fail
          go_meet
          exact ⟨_, rfl, rfl, k_n8, k_r, k_s, k_q, bw⟩
      · go_simp
        refine hK.out _ _ ⟨cka hHeld.1, cka hHeld.2.1, cka hHeld.2.2.1, cka hHeld.2.2.2.1, cka hHeld.2.2.2.2.1, cka hHeld.2.2.2.2.2.1, cka hHeld.2.2.2.2.2.2.1, cka hHeld.2.2.2.2.2.2.2⟩ (fun hHeld => ?_)
        clear hK K
        (try simp only [List.setIfInBounds_toArray, List.set_cons_zero, List.set_cons_succ])
        obtain ⟨X10, g10, eY, eg⟩ : ∃ Y g, Y = X2.alloc (.cells #[.int .i64 0, .int .i64 0, .int .i64 0, .int .i64 0] 25) ∧ g = X2.heap.size := ⟨_, _, rfl, rfl⟩
        rw [← eY, ← eg]
        rw [← eY] at hHeld
        have bc : Below X2.heap.size X2 X10 := by rw [eY]; exact (Below.refl _ _).alloc (Nat.le_refl _) _
        have k_n8 : X10.heap[g10]? = some (.cells #[.int .i64 0, .int .i64 0, .int .i64 0, .int .i64 0] 25 (0, 0)) := by rw [eY, eg]; exact heap_alloc_new X2 _
        have lo_n8 : w.heap.size ≤ g10 := by rw [eg]; exact bw.size
        have ne_r_n8 : ¬ w.heap.size = g10 := ne_new k_r eg
        have ne_s_n8 : ¬ w.heap.size + 1 = g10 := ne_new k_s eg
        have ne_q_n8 : ¬ g_q = g10 := ne_new k_q eg
        replace k_r := bk bc k_r
        replace k_s := bk bc k_s
        replace k_q := bk bc k_q
        replace bw := bst bc bw
        clear bc eY eg
        refine wpAnyH_ready (rs := [2]) (by kernel_rfl) (by simp) ?_
        refine (AllReadyH.cons rfl (fun K hK => ?_) AllReadyH.nil)
        go_simp
        refine (toRect4 s.a s.b s.c s.d _).mono ?_
        rintro e X11 ⟨rfl, bc⟩
        refine hK.out _ _ ⟨ck bc hHeld.1, ck bc hHeld.2.1, ck bc hHeld.2.2.1, ck bc hHeld.2.2.2.1, ck bc hHeld.2.2.2.2.1, ck bc hHeld.2.2.2.2.2.1, ck bc hHeld.2.2.2.2.2.2.1, ck bc hHeld.2.2.2.2.2.2.2⟩ (fun hHeld => ?_)
        clear hK K
        (try simp only [List.setIfInBounds_toArray, List.set_cons_zero, List.set_cons_succ])
        replace k_r := bk bc k_r
        replace k_s := bk bc k_s
        replace k_q := bk bc k_q
        replace k_n8 := bk bc k_n8
        replace bw := bst bc bw
        clear bc
        refine wpAnyH_ready (rs := [3]) (by kernel_rfl) (by simp) ?_
        refine (AllReadyH.cons rfl (fun K hK => ?_) AllReadyH.nil)
        go_simp
        refine (common_some ⟨a, b, c, d⟩ s t HC.out _).mono ?_
        rintro e X12 ⟨rfl, bc⟩
        refine hK.out _ _ ⟨ck bc hHeld.1, ck bc hHeld.2.1, ck bc hHeld.2.2.1, ck bc hHeld.2.2.2.1, ck bc hHeld.2.2.2.2.1, ck bc hHeld.2.2.2.2.2.1, ck bc hHeld.2.2.2.2.2.2.1, ck bc hHeld.2.2.2.2.2.2.2⟩ (fun hHeld => ?_)
        clear hK K
        (try simp only [List.setIfInBounds_toArray, List.set_cons_zero, List.set_cons_succ])
        replace k_r := bk bc k_r
        replace k_s := bk bc k_s
        replace k_q := bk bc k_q
        replace k_n8 := bk bc k_n8
        replace bw := bst bc bw
        clear bc
        refine takx (i := 4) (D := 17) (v := .tuple #[.agg #[.int .i64 t.a, .int .i64 t.b, .int .i64 t.c, .int .i64 t.d], .bool true]) rfl rfl (by kernel_rfl) (by kernel_rfl) (by kernel_rfl) (fun _ _ _ h => h) (Or.inl ⟨by rfl, fun W hSw => by (try dsimp only at hSw); go_simp⟩) (by assumption) ?_
        (try simp only [List.setIfInBounds_toArray, List.set_cons_zero, List.set_cons_succ])
        refine takx (i := 5) (D := 22) (v := .agg #[.int .i64 t.a, .int .i64 t.b, .int .i64 t.c, .int .i64 t.d]) rfl rfl (by kernel_rfl) (by kernel_rfl) (by kernel_rfl) (fun _ _ _ h => h) (Or.inl ⟨by rfl, fun W hSw => by (try dsimp only at hSw); go_simp⟩) (by assumption) ?_
        (try simp only [List.setIfInBounds_toArray, List.set_cons_zero, List.set_cons_succ])
        refine takx (i := 6) (D := 23) (v := .bool true) rfl rfl (by kernel_rfl) (by kernel_rfl) (by kernel_rfl) (fun _ _ _ h => h) (Or.inl ⟨by rfl, fun W hSw => by (try dsimp only at hSw); go_simp⟩) (by assumption) ?_
        (try simp only [List.setIfInBounds_toArray, List.set_cons_zero, List.set_cons_succ])
        refine wpAnyH_ready (rs := [8]) (by kernel_rfl) (by simp) ?_
        refine (AllReadyH.cons rfl (fun K hK => ?_) AllReadyH.nil)
        have qq := q4c k_n8
        go_simp
        clear qq
        refine hK.out _ _ ⟨(cks ne_q_n8 (cks ne_q_n8 (cks ne_q_n8 (cks ne_q_n8 hHeld.1)))), (cks ne_q_n8 (cks ne_q_n8 (cks ne_q_n8 (cks ne_q_n8 hHeld.2.1)))), (cks ne_q_n8 (cks ne_q_n8 (cks ne_q_n8 (cks ne_q_n8 hHeld.2.2.1)))), (cks ne_q_n8 (cks ne_q_n8 (cks ne_q_n8 (cks ne_q_n8 hHeld.2.2.2.1)))), (cks ne_s_n8 (cks ne_s_n8 (cks ne_s_n8 (cks ne_s_n8 hHeld.2.2.2.2.1)))), (cks ne_s_n8 (cks ne_s_n8 (cks ne_s_n8 (cks ne_s_n8 hHeld.2.2.2.2.2.1)))), (cks ne_s_n8 (cks ne_s_n8 (cks ne_s_n8 (cks ne_s_n8 hHeld.2.2.2.2.2.2.1)))), (cks ne_s_n8 (cks ne_s_n8 (cks ne_s_n8 (cks ne_s_n8 hHeld.2.2.2.2.2.2.2))))⟩ (fun hHeld => ?_)
        clear hK K
        (try simp only [List.setIfInBounds_toArray, List.set_cons_zero, List.set_cons_succ])
        obtain ⟨X13, eY⟩ : ∃ Y, Y = ((((X12.setCell ⟨g10, 0, none⟩ (.int .i64 t.a)).setCell ⟨g10, 1, none⟩ (.int .i64 t.b)).setCell ⟨g10, 2, none⟩ (.int .i64 t.c)).setCell ⟨g10, 3, none⟩ (.int .i64 t.d)) := ⟨_, rfl⟩
        rw [← eY] at hHeld ⊢
        replace k_r : X13.heap[w.heap.size]? = some (.cells #[.int .i64 a, .int .i64 b, .int .i64 c, .int .i64 d] 23 (0, 0)) := by rw [eY]; exact (bks ne_r_n8 (bks ne_r_n8 (bks ne_r_n8 (bks ne_r_n8 k_r))))
        replace k_s : X13.heap[w.heap.size + 1]? = some (.cells #[.int .i64 s.a, .int .i64 s.b, .int .i64 s.c, .int .i64 s.d] 23 (0, 0)) := by rw [eY]; exact (bks ne_s_n8 (bks ne_s_n8 (bks ne_s_n8 (bks ne_s_n8 k_s))))
        replace k_q : X13.heap[g_q]? = some (.cells #[.int .i64 a, .int .i64 b, .int .i64 c, .int .i64 d] 25 (0, 0)) := by rw [eY]; exact (bks ne_q_n8 (bks ne_q_n8 (bks ne_q_n8 (bks ne_q_n8 k_q))))
        replace bw : Below w.heap.size w X13 := by rw [eY]; exact (bss lo_n8 (bss lo_n8 (bss lo_n8 (bss lo_n8 bw))))
        replace k_n8 : X13.heap[g10]? = some (.cells #[.int .i64 t.a, .int .i64 t.b, .int .i64 t.c, .int .i64 t.d] 25 (0, 0)) := by rw [eY]; exact q4s k_n8
        clear eY
        refine takx (i := 9) (D := 9) (v := .bool true) rfl rfl (by kernel_rfl) (by kernel_rfl) (by kernel_rfl) (fun _ _ _ h => h) (Or.inl ⟨by rfl, fun W hSw => by (try dsimp only at hSw); go_simp⟩) (by assumption) ?_
        (try simp only [List.setIfInBounds_toArray, List.set_cons_zero, List.set_cons_succ])
        refine wpAnyH_done (by kernel_rfl) ?_ _
        go_wp2_with fail
        go_meet
        exact ⟨_, rfl, rfl, k_n8, k_r, k_s, k_q, bw⟩
    case rest =>
      clear k_r k_s k_q bw
      obtain ⟨g_both, rfl, rfl, k_both, k_r, k_s, k_q, BW⟩ := hcut
      have bw := BW.out
      clear BW
      have q_r := q4c k_r
      have q_s := q4c k_s
      have q_q := q4c k_q
      have q_both := q4c k_both
      go_wp2_with fail
      refine (fine_yes a b c d HF.out _).mono ?_
      rintro e Y15 ⟨rfl, bc⟩
      clear q_r q_s q_q q_both
      replace k_r := bk bc k_r
      replace k_s := bk bc k_s
      replace k_q := bk bc k_q
      replace k_both := bk bc k_both
      replace bw := bst bc bw
      clear bc
      have q_r := q4c k_r
      have q_s := q4c k_s
      have q_q := q4c k_q
      have q_both := q4c k_both
      go_upto_region 5 with fail
      clear q_r q_s q_q q_both
      go_cut [10] (fun s10 wx => ∃ (g_p : Nat) (A1 : Option Addr) (cp1 : Nat), s10 = .pointer (some ⟨g_p, 0, none⟩) ∧ wx.heap[g_p]? = some (.cells #[.int .i64 t.a, .int .i64 t.b, .int .i64 t.c, .int .i64 t.d, .int .i64 (4 * (c - a)), .slice A1 nl cp1] 31 (0, 0)) ∧ wx.heap[w.heap.size]? = some (.cells #[.int .i64 a, .int .i64 b, .int .i64 c, .int .i64 d] 23 (0, 0)) ∧ wx.heap[w.heap.size + 1]? = some (.cells #[.int .i64 s.a, .int .i64 s.b, .int .i64 s.c, .int .i64 s.d] 23 (0, 0)) ∧ wx.heap[g_q]? = some (.cells #[.int .i64 a, .int .i64 b, .int .i64 c, .int .i64 d] 25 (0, 0)) ∧ wx.heap[g_both]? = some (.cells #[.int .i64 t.a, .int .i64 t.b, .int .i64 t.c, .int .i64 t.d] 25 (0, 0)) ∧ Hid (Rd wx wx.heap.size A1 nl ((byt N zs).drop o)) ∧ Hid (nl ≤ cp1) ∧ Hid (Below w.heap.size w wx))
      case first =>
        refine wp_region_held_drew (S := fun w' => w'.cell? ⟨g_q, 0, none⟩ = some (.int .i64 a) ∧ w'.cell? ⟨g_q, 1, none⟩ = some (.int .i64 b) ∧ w'.cell? ⟨g_q, 2, none⟩ = some (.int .i64 c) ∧ w'.cell? ⟨g_q, 3, none⟩ = some (.int .i64 d) ∧ w'.cell? ⟨w.heap.size + 1, 0, none⟩ = some (.int .i64 s.a) ∧ w'.cell? ⟨w.heap.size + 1, 1, none⟩ = some (.int .i64 s.b) ∧ w'.cell? ⟨w.heap.size + 1, 2, none⟩ = some (.int .i64 s.c) ∧ w'.cell? ⟨w.heap.size + 1, 3, none⟩ = some (.int .i64 s.d)) (by kernel_rfl) ⟨(q4c k_q).1.1, (q4c k_q).1.2.1, (q4c k_q).1.2.2.1, (q4c k_q).1.2.2.2, (q4c k_s).1.1, (q4c k_s).1.2.1, (q4c k_s).1.2.2.1, (q4c k_s).1.2.2.2⟩ ?_
        intro hHeld
        obtain ⟨X16, eX, bc⟩ : ∃ X, X = Y15.drew ∧ Below Y15.heap.size Y15 X := ⟨_, rfl, (Below.refl _ _).drew⟩
        rw [← eX] at hHeld ⊢
        replace k_r := bk bc k_r
        replace k_s := bk bc k_s
        replace k_q := bk bc k_q
        replace k_both := bk bc k_both
        replace bw := bst bc bw
        (try replace r1 := (r1.below bc).more bc.size)
        clear eX bc
        refine takx (i := 0) (D := 31) (v := .agg #[.int .i64 a, .int .i64 b, .int .i64 c, .int .i64 d]) rfl rfl (by kernel_rfl) (by kernel_rfl) (by kernel_rfl) (fun _ _ _ h => h) (Or.inl ⟨by rfl, fun W hSw => by (try dsimp only at hSw); go_simp⟩) (by assumption) ?_
        (try simp only [List.setIfInBounds_toArray, List.set_cons_zero, List.set_cons_succ])
        refine takx (i := 1) (D := 32) (v := .slice Z n cp) rfl rfl (by kernel_rfl) (by kernel_rfl) (by kernel_rfl) (fun _ _ _ h => h) (Or.inl ⟨by rfl, fun W hSw => by (try dsimp only at hSw); go_simp⟩) (by assumption) ?_
        (try simp only [List.setIfInBounds_toArray, List.set_cons_zero, List.set_cons_succ])
        refine takx (i := 2) (D := 33) (v := .agg #[.int .i64 s.a, .int .i64 s.b, .int .i64 s.c, .int .i64 s.d]) rfl rfl (by kernel_rfl) (by kernel_rfl) (by kernel_rfl) (fun _ _ _ h => h) (Or.inl ⟨by rfl, fun W hSw => by (try dsimp only at hSw); go_simp⟩) (by assumption) ?_
        (try simp only [List.setIfInBounds_toArray, List.set_cons_zero, List.set_cons_succ])
        refine wpAnyH_ready (rs := [3, 5]) (by kernel_rfl) (by simp) ?_
        refine (AllReadyH.cons rfl (fun K hK => ?_) (AllReadyH.cons rfl (fun K hK => ?_) AllReadyH.nil))
        · go_simp
          refine (toRect4 s.a s.b s.c s.d _).mono ?_
          rintro e X17 ⟨rfl, bc⟩
          refine hK.out _ _ ⟨ck bc hHeld.1, ck bc hHeld.2.1, ck bc hHeld.2.2.1, ck bc hHeld.2.2.2.1, ck bc hHeld.2.2.2.2.1, ck bc hHeld.2.2.2.2.2.1, ck bc hHeld.2.2.2.2.2.2.1, ck bc hHeld.2.2.2.2.2.2.2⟩ (fun hHeld => ?_)
          clear hK K
          (try simp only [List.setIfInBounds_toArray, List.set_cons_zero, List.set_cons_succ])
          replace k_r := bk bc k_r
          replace k_s := bk bc k_s
          replace k_q := bk bc k_q
          replace k_both := bk bc k_both
          replace bw := bst bc bw
          (try replace r1 := (r1.below bc).more bc.size)
          clear bc
          refine wpAnyH_ready (rs := [4, 5]) (by kernel_rfl) (by simp) ?_
          refine (AllReadyH.cons rfl (fun K hK => ?_) (AllReadyH.cons rfl (fun K hK => ?_) AllReadyH.nil))
          · go_simp
            refine (nrgbaSub_some a b c d N h3 h4 h5 h6 HN.out n cp Z zs s t HC.out o nl HO.out HNL.out hn0 _ ((HR.out.below bw).more bw.size)).mono ?_
            rintro e X18 ⟨A1, cp1, rfl, r1, lo1, bc, hcap⟩
            refine hK.out _ _ ⟨ck bc hHeld.1, ck bc hHeld.2.1, ck bc hHeld.2.2.1, ck bc hHeld.2.2.2.1, ck bc hHeld.2.2.2.2.1, ck bc hHeld.2.2.2.2.2.1, ck bc hHeld.2.2.2.2.2.2.1, ck bc hHeld.2.2.2.2.2.2.2⟩ (fun hHeld => ?_)
            clear hK K
            (try simp only [List.setIfInBounds_toArray, List.set_cons_zero, List.set_cons_succ])
            replace k_r := bk bc k_r
            replace k_s := bk bc k_s
            replace k_q := bk bc k_q
            replace k_both := bk bc k_both
            replace bw := bst bc bw
            (try replace r1 := (r1.below bc).more bc.size)
            clear bc
            refine wpAnyH_ready (rs := [5]) (by kernel_rfl) (by simp) ?_
            refine (AllReadyH.cons rfl (fun K hK => ?_) AllReadyH.nil)
            go_simp
            refine hK.out _ _ ⟨cka hHeld.1, cka hHeld.2.1, cka hHeld.2.2.1, cka hHeld.2.2.2.1, cka hHeld.2.2.2.2.1, cka hHeld.2.2.2.2.2.1, cka hHeld.2.2.2.2.2.2.1, cka hHeld.2.2.2.2.2.2.2⟩ (fun hHeld => ?_)
            clear hK K
            (try simp only [List.setIfInBounds_toArray, List.set_cons_zero, List.set_cons_succ])
            obtain ⟨X19, g19, eY, eg⟩ : ∃ Y g, Y = X18.alloc (.cells #[.int .i64 0, .int .i64 0, .int .i64 0, .int .i64 0, .int .i64 0, .slice none 0 0] 31) ∧ g = X18.heap.size := ⟨_, _, rfl, rfl⟩
            rw [← eY, ← eg]
            rw [← eY] at hHeld
            have bc : Below X18.heap.size X18 X19 := by rw [eY]; exact (Below.refl _ _).alloc (Nat.le_refl _) _
            have k_n10 : X19.heap[g19]? = some (.cells #[.int .i64 0, .int .i64 0, .int .i64 0, .int .i64 0, .int .i64 0, .slice none 0 0] 31 (0, 0)) := by rw [eY, eg]; exact heap_alloc_new X18 _
            have lo_n10 : w.heap.size ≤ g19 := by rw [eg]; exact bw.size
            have ne_r_n10 : ¬ w.heap.size = g19 := ne_new k_r eg
            have ne_s_n10 : ¬ w.heap.size + 1 = g19 := ne_new k_s eg
            have ne_q_n10 : ¬ g_q = g19 := ne_new k_q eg
            have ne_both_n10 : ¬ g_both = g19 := ne_new k_both eg
            (try have na_r1 := Rd.ne_new r1 eg)
            replace k_r := bk bc k_r
            replace k_s := bk bc k_s
            replace k_q := bk bc k_q
            replace k_both := bk bc k_both
            replace bw := bst bc bw
            (try replace r1 := (r1.below bc).more bc.size)
            clear bc eY eg
            refine wpAnyH_ready (rs := [6]) (by kernel_rfl) (by simp) ?_
            refine (AllReadyH.cons rfl (fun K hK => ?_) AllReadyH.nil)
            have qq := q6c k_n10
            go_simp
            clear qq
            refine hK.out _ _ ⟨(cks ne_q_n10 (cks ne_q_n10 (cks ne_q_n10 (cks ne_q_n10 (cks ne_q_n10 (cks ne_q_n10 hHeld.1)))))), (cks ne_q_n10 (cks ne_q_n10 (cks ne_q_n10 (cks ne_q_n10 (cks ne_q_n10 (cks ne_q_n10 hHeld.2.1)))))), (cks ne_q_n10 (cks ne_q_n10 (cks ne_q_n10 (cks ne_q_n10 (cks ne_q_n10 (cks ne_q_n10 hHeld.2.2.1)))))), (cks ne_q_n10 (cks ne_q_n10 (cks ne_q_n10 (cks ne_q_n10 (cks ne_q_n10 (cks ne_q_n10 hHeld.2.2.2.1)))))), (cks ne_s_n10 (cks ne_s_n10 (cks ne_s_n10 (cks ne_s_n10 (cks ne_s_n10 (cks ne_s_n10 hHeld.2.2.2.2.1)))))), (cks ne_s_n10 (cks ne_s_n10 (cks ne_s_n10 (cks ne_s_n10 (cks ne_s_n10 (cks ne_s_n10 hHeld.2.2.2.2.2.1)))))), (cks ne_s_n10 (cks ne_s_n10 (cks ne_s_n10 (cks ne_s_n10 (cks ne_s_n10 (cks ne_s_n10 hHeld.2.2.2.2.2.2.1)))))), (cks ne_s_n10 (cks ne_s_n10 (cks ne_s_n10 (cks ne_s_n10 (cks ne_s_n10 (cks ne_s_n10 hHeld.2.2.2.2.2.2.2))))))⟩ (fun hHeld => ?_)
            clear hK K
            (try simp only [List.setIfInBounds_toArray, List.set_cons_zero, List.set_cons_succ])
            obtain ⟨X20, eY⟩ : ∃ Y, Y = ((((((X19.setCell ⟨g19, 0, none⟩ (.int .i64 t.a)).setCell ⟨g19, 1, none⟩ (.int .i64 t.b)).setCell ⟨g19, 2, none⟩ (.int .i64 t.c)).setCell ⟨g19, 3, none⟩ (.int .i64 t.d)).setCell ⟨g19, 4, none⟩ (.int .i64 (4 * (c - a)))).setCell ⟨g19, 5, none⟩ (.slice A1 nl cp1)) := ⟨_, rfl⟩
            rw [← eY] at hHeld ⊢
            replace k_r : X20.heap[w.heap.size]? = some (.cells #[.int .i64 a, .int .i64 b, .int .i64 c, .int .i64 d] 23 (0, 0)) := by rw [eY]; exact (bks ne_r_n10 (bks ne_r_n10 (bks ne_r_n10 (bks ne_r_n10 (bks ne_r_n10 (bks ne_r_n10 k_r))))))
            replace k_s : X20.heap[w.heap.size + 1]? = some (.cells #[.int .i64 s.a, .int .i64 s.b, .int .i64 s.c, .int .i64 s.d] 23 (0, 0)) := by rw [eY]; exact (bks ne_s_n10 (bks ne_s_n10 (bks ne_s_n10 (bks ne_s_n10 (bks ne_s_n10 (bks ne_s_n10 k_s))))))
            replace k_q : X20.heap[g_q]? = some (.cells #[.int .i64 a, .int .i64 b, .int .i64 c, .int .i64 d] 25 (0, 0)) := by rw [eY]; exact (bks ne_q_n10 (bks ne_q_n10 (bks ne_q_n10 (bks ne_q_n10 (bks ne_q_n10 (bks ne_q_n10 k_q))))))
            replace k_both : X20.heap[g_both]? = some (.cells #[.int .i64 t.a, .int .i64 t.b, .int .i64 t.c, .int .i64 t.d] 25 (0, 0)) := by rw [eY]; exact (bks ne_both_n10 (bks ne_both_n10 (bks ne_both_n10 (bks ne_both_n10 (bks ne_both_n10 (bks ne_both_n10 k_both))))))
            replace bw : Below w.heap.size w X20 := by rw [eY]; exact (bss lo_n10 (bss lo_n10 (bss lo_n10 (bss lo_n10 (bss lo_n10 (bss lo_n10 bw))))))
            replace k_n10 : X20.heap[g19]? = some (.cells #[.int .i64 t.a, .int .i64 t.b, .int .i64 t.c, .int .i64 t.d, .int .i64 (4 * (c - a)), .slice A1 nl cp1] 31 (0, 0)) := by rw [eY]; exact q6s k_n10
            (try replace r1 := Rd.sized (W := X20) (Rd.sset na_r1 (Rd.sset na_r1 (Rd.sset na_r1 (Rd.sset na_r1 (Rd.sset na_r1 (Rd.sset na_r1 r1)))))) eY)
            clear eY
            refine wpAnyH_done (by kernel_rfl) ?_ _
            go_wp2_with fail
            go_meet
            exact ⟨_, A1, cp1, rfl, k_n10, k_r, k_s, k_q, k_both, r1, hcap, bw⟩
          · go_simp
            refine hK.out _ _ ⟨cka hHeld.1, cka hHeld.2.1, cka hHeld.2.2.1, cka hHeld.2.2.2.1, cka hHeld.2.2.2.2.1, cka hHeld.2.2.2.2.2.1, cka hHeld.2.2.2.2.2.2.1, cka hHeld.2.2.2.2.2.2.2⟩ (fun hHeld => ?_)
            clear hK K
            (try simp only [List.setIfInBounds_toArray, List.set_cons_zero, List.set_cons_succ])
            obtain ⟨X21, g21, eY, eg⟩ : ∃ Y g, Y = X17.alloc (.cells #[.int .i64 0, .int .i64 0, .int .i64 0, .int .i64 0, .int .i64 0, .slice none 0 0] 31) ∧ g = X17.heap.size := ⟨_, _, rfl, rfl⟩
            rw [← eY, ← eg]
            rw [← eY] at hHeld
            have bc : Below X17.heap.size X17 X21 := by rw [eY]; exact (Below.refl _ _).alloc (Nat.le_refl _) _
            have k_n10 : X21.heap[g21]? = some (.cells #[.int .i64 0, .int .i64 0, .int .i64 0, .int .i64 0, .int .i64 0, .slice none 0 0] 31 (0, 0)) := by rw [eY, eg]; exact heap_alloc_new X17 _
            have lo_n10 : w.heap.size ≤ g21 := by rw [eg]; exact bw.size
            have ne_r_n10 : ¬ w.heap.size = g21 := ne_new k_r eg
            have ne_s_n10 : ¬ w.heap.size + 1 = g21 := ne_new k_s eg
            have ne_q_n10 : ¬ g_q = g21 := ne_new k_q eg
            have ne_both_n10 : ¬ g_both = g21 := ne_new k_both eg
            (try have na_r1 := Rd.ne_new r1 eg)
            replace k_r := bk bc k_r
            replace k_s := bk bc k_s
            replace k_q := bk bc k_q
            replace k_both := bk bc k_both
            replace bw := bst bc bw
            (try replace r1 := (r1.below bc).more bc.size)
            clear bc eY eg
            refine wpAnyH_ready (rs := [4]) (by kernel_rfl) (by simp) ?_
            refine (AllReadyH.cons rfl (fun K hK => ?_) AllReadyH.nil)
            go_simp
            refine (nrgbaSub_some a b c d N h3 h4 h5 h6 HN.out n cp Z zs s t HC.out o nl HO.out HNL.out hn0 _ ((HR.out.below bw).more bw.size)).mono ?_
            rintro e X22 ⟨A1, cp1, rfl, r1, lo1, bc, hcap⟩
            refine hK.out _ _ ⟨ck bc hHeld.1, ck bc hHeld.2.1, ck bc hHeld.2.2.1, ck bc hHeld.2.2.2.1, ck bc hHeld.2.2.2.2.1, ck bc hHeld.2.2.2.2.2.1, ck bc hHeld.2.2.2.2.2.2.1, ck bc hHeld.2.2.2.2.2.2.2⟩ (fun hHeld => ?_)
            clear hK K
            (try simp only [List.setIfInBounds_toArray, List.set_cons_zero, List.set_cons_succ])
            have na_r1 := lo_ne (n := nl) lo1 k_n10
            replace k_r := bk bc k_r
            replace k_s := bk bc k_s
            replace k_q := bk bc k_q
            replace k_both := bk bc k_both
            replace k_n10 := bk bc k_n10
            replace bw := bst bc bw
            (try replace r1 := (r1.below bc).more bc.size)
            clear bc
            refine wpAnyH_ready (rs := [6]) (by kernel_rfl) (by simp) ?_
            refine (AllReadyH.cons rfl (fun K hK => ?_) AllReadyH.nil)
            have qq := q6c k_n10
            go_simp
            clear qq
            refine hK.out _ _ ⟨(cks ne_q_n10 (cks ne_q_n10 (cks ne_q_n10 (cks ne_q_n10 (cks ne_q_n10 (cks ne_q_n10 hHeld.1)))))), (cks ne_q_n10 (cks ne_q_n10 (cks ne_q_n10 (cks ne_q_n10 (cks ne_q_n10 (cks ne_q_n10 hHeld.2.1)))))), (cks ne_q_n10 (cks ne_q_n10 (cks ne_q_n10 (cks ne_q_n10 (cks ne_q_n10 (cks ne_q_n10 hHeld.2.2.1)))))), (cks ne_q_n10 (cks ne_q_n10 (cks ne_q_n10 (cks ne_q_n10 (cks ne_q_n10 (cks ne_q_n10 hHeld.2.2.2.1)))))), (cks ne_s_n10 (cks ne_s_n10 (cks ne_s_n10 (cks ne_s_n10 (cks ne_s_n10 (cks ne_s_n10 hHeld.2.2.2.2.1)))))), (cks ne_s_n10 (cks ne_s_n10 (cks ne_s_n10 (cks ne_s_n10 (cks ne_s_n10 (cks ne_s_n10 hHeld.2.2.2.2.2.1)))))), (cks ne_s_n10 (cks ne_s_n10 (cks ne_s_n10 (cks ne_s_n10 (cks ne_s_n10 (cks ne_s_n10 hHeld.2.2.2.2.2.2.1)))))), (cks ne_s_n10 (cks ne_s_n10 (cks ne_s_n10 (cks ne_s_n10 (cks ne_s_n10 (cks ne_s_n10 hHeld.2.2.2.2.2.2.2))))))⟩ (fun hHeld => ?_)
            clear hK K
            (try simp only [List.setIfInBounds_toArray, List.set_cons_zero, List.set_cons_succ])
            obtain ⟨X23, eY⟩ : ∃ Y, Y = ((((((X22.setCell ⟨g21, 0, none⟩ (.int .i64 t.a)).setCell ⟨g21, 1, none⟩ (.int .i64 t.b)).setCell ⟨g21, 2, none⟩ (.int .i64 t.c)).setCell ⟨g21, 3, none⟩ (.int .i64 t.d)).setCell ⟨g21, 4, none⟩ (.int .i64 (4 * (c - a)))).setCell ⟨g21, 5, none⟩ (.slice A1 nl cp1)) := ⟨_, rfl⟩
            rw [← eY] at hHeld ⊢
            replace k_r : X23.heap[w.heap.size]? = some (.cells #[.int .i64 a, .int .i64 b, .int .i64 c, .int .i64 d] 23 (0, 0)) := by rw [eY]; exact (bks ne_r_n10 (bks ne_r_n10 (bks ne_r_n10 (bks ne_r_n10 (bks ne_r_n10 (bks ne_r_n10 k_r))))))
            replace k_s : X23.heap[w.heap.size + 1]? = some (.cells #[.int .i64 s.a, .int .i64 s.b, .int .i64 s.c, .int .i64 s.d] 23 (0, 0)) := by rw [eY]; exact (bks ne_s_n10 (bks ne_s_n10 (bks ne_s_n10 (bks ne_s_n10 (bks ne_s_n10 (bks ne_s_n10 k_s))))))
            replace k_q : X23.heap[g_q]? = some (.cells #[.int .i64 a, .int .i64 b, .int .i64 c, .int .i64 d] 25 (0, 0)) := by rw [eY]; exact (bks ne_q_n10 (bks ne_q_n10 (bks ne_q_n10 (bks ne_q_n10 (bks ne_q_n10 (bks ne_q_n10 k_q))))))
            replace k_both : X23.heap[g_both]? = some (.cells #[.int .i64 t.a, .int .i64 t.b, .int .i64 t.c, .int .i64 t.d] 25 (0, 0)) := by rw [eY]; exact (bks ne_both_n10 (bks ne_both_n10 (bks ne_both_n10 (bks ne_both_n10 (bks ne_both_n10 (bks ne_both_n10 k_both))))))
            replace bw : Below w.heap.size w X23 := by rw [eY]; exact (bss lo_n10 (bss lo_n10 (bss lo_n10 (bss lo_n10 (bss lo_n10 (bss lo_n10 bw))))))
            replace k_n10 : X23.heap[g21]? = some (.cells #[.int .i64 t.a, .int .i64 t.b, .int .i64 t.c, .int .i64 t.d, .int .i64 (4 * (c - a)), .slice A1 nl cp1] 31 (0, 0)) := by rw [eY]; exact q6s k_n10
            (try replace r1 := Rd.sized (W := X23) (Rd.sset na_r1 (Rd.sset na_r1 (Rd.sset na_r1 (Rd.sset na_r1 (Rd.sset na_r1 (Rd.sset na_r1 r1)))))) eY)
            clear eY
            refine wpAnyH_done (by kernel_rfl) ?_ _
            go_wp2_with fail
            go_meet
            exact ⟨_, A1, cp1, rfl, k_n10, k_r, k_s, k_q, k_both, r1, hcap, bw⟩
        · go_simp
          refine hK.out _ _ ⟨cka hHeld.1, cka hHeld.2.1, cka hHeld.2.2.1, cka hHeld.2.2.2.1, cka hHeld.2.2.2.2.1, cka hHeld.2.2.2.2.2.1, cka hHeld.2.2.2.2.2.2.1, cka hHeld.2.2.2.2.2.2.2⟩ (fun hHeld => ?_)
          clear hK K
          (try simp only [List.setIfInBounds_toArray, List.set_cons_zero, List.set_cons_succ])
          obtain ⟨X24, g24, eY, eg⟩ : ∃ Y g, Y = X16.alloc (.cells #[.int .i64 0, .int .i64 0, .int .i64 0, .int .i64 0, .int .i64 0, .slice none 0 0] 31) ∧ g = X16.heap.size := ⟨_, _, rfl, rfl⟩
          rw [← eY, ← eg]
          rw [← eY] at hHeld
          have bc : Below X16.heap.size X16 X24 := by rw [eY]; exact (Below.refl _ _).alloc (Nat.le_refl _) _
          have k_n10 : X24.heap[g24]? = some (.cells #[.int .i64 0, .int .i64 0, .int .i64 0, .int .i64 0, .int .i64 0, .slice none 0 0] 31 (0, 0)) := by rw [eY, eg]; exact heap_alloc_new X16 _
          have lo_n10 : w.heap.size ≤ g24 := by rw [eg]; exact bw.size
          have ne_r_n10 : ¬ w.heap.size = g24 := ne_new k_r eg
          have ne_s_n10 : ¬ w.heap.size + 1 = g24 := ne_new k_s eg
          have ne_q_n10 : ¬ g_q = g24 := ne_new k_q eg
          have ne_both_n10 : ¬ g_both = g24 := ne_new k_both eg
          (try have na_r1 := Rd.ne_new r1 eg)
          replace k_r := bk bc k_r
          replace k_s := bk bc k_s
          replace k_q := bk bc k_q
          replace k_both := bk bc k_both
          replace bw := bst bc bw
          (try replace r1 := (r1.below bc).more bc.size)
          clear bc eY eg
          refine wpAnyH_ready (rs := [3]) (by kernel_rfl) (by simp) ?_
          refine (AllReadyH.cons rfl (fun K hK => ?_) AllReadyH.nil)
          go_simp
          refine (toRect4 s.a s.b s.c s.d _).mono ?_
          rintro e X25 ⟨rfl, bc⟩
          refine hK.out _ _ ⟨ck bc hHeld.1, ck bc hHeld.2.1, ck bc hHeld.2.2.1, ck bc hHeld.2.2.2.1, ck bc hHeld.2.2.2.2.1, ck bc hHeld.2.2.2.2.2.1, ck bc hHeld.2.2.2.2.2.2.1, ck bc hHeld.2.2.2.2.2.2.2⟩ (fun hHeld => ?_)
          clear hK K
          (try simp only [List.setIfInBounds_toArray, List.set_cons_zero, List.set_cons_succ])
          replace k_r := bk bc k_r
          replace k_s := bk bc k_s
          replace k_q := bk bc k_q
          replace k_both := bk bc k_both
          replace k_n10 := bk bc k_n10
          replace bw := bst bc bw
          (try replace r1 := (r1.below bc).more bc.size)
          clear bc
          refine wpAnyH_ready (rs := [4]) (by kernel_rfl) (by simp) ?_
          refine (AllReadyH.cons rfl (fun K hK => ?_) AllReadyH.nil)
          go_simp
          refine (nrgbaSub_some a b c d N h3 h4 h5 h6 HN.out n cp Z zs s t HC.out o nl HO.out HNL.out hn0 _ ((HR.out.below bw).more bw.size)).mono ?_
          rintro e X26 ⟨A1, cp1, rfl, r1, lo1, bc, hcap⟩
          refine hK.out _ _ ⟨ck bc hHeld.1, ck bc hHeld.2.1, ck bc hHeld.2.2.1, ck bc hHeld.2.2.2.1, ck bc hHeld.2.2.2.2.1, ck bc hHeld.2.2.2.2.2.1, ck bc hHeld.2.2.2.2.2.2.1, ck bc hHeld.2.2.2.2.2.2.2⟩ (fun hHeld => ?_)
          clear hK K
          (try simp only [List.setIfInBounds_toArray, List.set_cons_zero, List.set_cons_succ])
          have na_r1 := lo_ne (n := nl) lo1 k_n10
          replace k_r := bk bc k_r
          replace k_s := bk bc k_s
          replace k_q := bk bc k_q
          replace k_both := bk bc k_both
          replace k_n10 := bk bc k_n10
          replace bw := bst bc bw
          (try replace r1 := (r1.below bc).more bc.size)
          clear bc
          refine wpAnyH_ready (rs := [6]) (by kernel_rfl) (by simp) ?_
          refine (AllReadyH.cons rfl (fun K hK => ?_) AllReadyH.nil)
          have qq := q6c k_n10
          go_simp
          clear qq
          refine hK.out _ _ ⟨(cks ne_q_n10 (cks ne_q_n10 (cks ne_q_n10 (cks ne_q_n10 (cks ne_q_n10 (cks ne_q_n10 hHeld.1)))))), (cks ne_q_n10 (cks ne_q_n10 (cks ne_q_n10 (cks ne_q_n10 (cks ne_q_n10 (cks ne_q_n10 hHeld.2.1)))))), (cks ne_q_n10 (cks ne_q_n10 (cks ne_q_n10 (cks ne_q_n10 (cks ne_q_n10 (cks ne_q_n10 hHeld.2.2.1)))))), (cks ne_q_n10 (cks ne_q_n10 (cks ne_q_n10 (cks ne_q_n10 (cks ne_q_n10 (cks ne_q_n10 hHeld.2.2.2.1)))))), (cks ne_s_n10 (cks ne_s_n10 (cks ne_s_n10 (cks ne_s_n10 (cks ne_s_n10 (cks ne_s_n10 hHeld.2.2.2.2.1)))))), (cks ne_s_n10 (cks ne_s_n10 (cks ne_s_n10 (cks ne_s_n10 (cks ne_s_n10 (cks ne_s_n10 hHeld.2.2.2.2.2.1)))))), (cks ne_s_n10 (cks ne_s_n10 (cks ne_s_n10 (cks ne_s_n10 (cks ne_s_n10 (cks ne_s_n10 hHeld.2.2.2.2.2.2.1)))))), (cks ne_s_n10 (cks ne_s_n10 (cks ne_s_n10 (cks ne_s_n10 (cks ne_s_n10 (cks ne_s_n10 hHeld.2.2.2.2.2.2.2))))))⟩ (fun hHeld => ?_)
          clear hK K
          (try simp only [List.setIfInBounds_toArray, List.set_cons_zero, List.set_cons_succ])
          obtain ⟨X27, eY⟩ : ∃ Y, Y = ((((((X26.setCell ⟨g24, 0, none⟩ (.int .i64 t.a)).setCell ⟨g24, 1, none⟩ (.int .i64 t.b)).setCell ⟨g24, 2, none⟩ (.int .i64 t.c)).setCell ⟨g24, 3, none⟩ (.int .i64 t.d)).setCell ⟨g24, 4, none⟩ (.int .i64 (4 * (c - a)))).setCell ⟨g24, 5, none⟩ (.slice A1 nl cp1)) := ⟨_, rfl⟩
          rw [← eY] at hHeld ⊢
          replace k_r : X27.heap[w.heap.size]? = some (.cells #[.int .i64 a, .int .i64 b, .int .i64 c, .int .i64 d] 23 (0, 0)) := by rw [eY]; exact (bks ne_r_n10 (bks ne_r_n10 (bks ne_r_n10 (bks ne_r_n10 (bks ne_r_n10 (bks ne_r_n10 k_r))))))
          replace k_s : X27.heap[w.heap.size + 1]? = some (.cells #[.int .i64 s.a, .int .i64 s.b, .int .i64 s.c, .int .i64 s.d] 23 (0, 0)) := by rw [eY]; exact (bks ne_s_n10 (bks ne_s_n10 (bks ne_s_n10 (bks ne_s_n10 (bks ne_s_n10 (bks ne_s_n10 k_s))))))
          replace k_q : X27.heap[g_q]? = some (.cells #[.int .i64 a, .int .i64 b, .int .i64 c, .int .i64 d] 25 (0, 0)) := by rw [eY]; exact (bks ne_q_n10 (bks ne_q_n10 (bks ne_q_n10 (bks ne_q_n10 (bks ne_q_n10 (bks ne_q_n10 k_q))))))
          replace k_both : X27.heap[g_both]? = some (.cells #[.int .i64 t.a, .int .i64 t.b, .int .i64 t.c, .int .i64 t.d] 25 (0, 0)) := by rw [eY]; exact (bks ne_both_n10 (bks ne_both_n10 (bks ne_both_n10 (bks ne_both_n10 (bks ne_both_n10 (bks ne_both_n10 k_both))))))
          replace bw : Below w.heap.size w X27 := by rw [eY]; exact (bss lo_n10 (bss lo_n10 (bss lo_n10 (bss lo_n10 (bss lo_n10 (bss lo_n10 bw))))))
          replace k_n10 : X27.heap[g24]? = some (.cells #[.int .i64 t.a, .int .i64 t.b, .int .i64 t.c, .int .i64 t.d, .int .i64 (4 * (c - a)), .slice A1 nl cp1] 31 (0, 0)) := by rw [eY]; exact q6s k_n10
          (try replace r1 := Rd.sized (W := X27) (Rd.sset na_r1 (Rd.sset na_r1 (Rd.sset na_r1 (Rd.sset na_r1 (Rd.sset na_r1 (Rd.sset na_r1 r1)))))) eY)
          clear eY
          refine wpAnyH_done (by kernel_rfl) ?_ _
          go_wp2_with fail
          go_meet
          exact ⟨_, A1, cp1, rfl, k_n10, k_r, k_s, k_q, k_both, r1, hcap, bw⟩
      case rest =>
        clear k_r k_s k_q k_both bw
        obtain ⟨g_p, A1, cp1, rfl, k_p, k_r, k_s, k_q, k_both, R1, CAP, BW⟩ := hcut
        have bw := BW.out
        clear BW
        have r1 := R1.out
        obtain ⟨g1, off1, rfl, _, _⟩ := r1.2.2.2 hn0
        clear r1
        have HB0 := Lib.hid (show _ from And.intro k_q (And.intro k_both k_p))
        have BX := Lib.hid bw
        have hrdt := rect_diff t.a t.b t.c t.d
        have q_both := q4c k_both
        have q_p := q6c k_p
        clear k_q k_both k_p bw k_r k_s
        go_wp2_with fail
        clear q_both q_p
        go_loopw [11] (fun vy wr => ∃ k : Nat, (k : Int) ≤ t.d - t.b ∧ vy = .int .i64 (t.b + k) ∧ Hid (wr.heap[g_q]? = some (.cells #[.int .i64 a, .int .i64 b, .int .i64 c, .int .i64 d] 25 (0, 0))) ∧ Hid (wr.heap[g_both]? = some (.cells #[.int .i64 t.a, .int .i64 t.b, .int .i64 t.c, .int .i64 t.d] 25 (0, 0))) ∧ Hid (wr.heap[g_p]? = some (.cells #[.int .i64 t.a, .int .i64 t.b, .int .i64 t.c, .int .i64 t.d, .int .i64 (4 * (c - a)), .slice (some ⟨g1, off1, none⟩) nl cp1] 31 (0, 0))) ∧ Hid (Rd wr wr.heap.size (some ⟨g1, off1, none⟩) nl ((byt N zs).drop o)) ∧ Hid (Below w.heap.size w wr)) (fun vy _ => (t.d - intOf vy).toNat)
        case atStart => exact ⟨0, by omega, by simp, HB0.out.1, HB0.out.2.1, HB0.out.2.2, R1, BX⟩
        case round =>
          obtain ⟨k, hk, rfl, KQ, KB, KP_, RR, BW⟩ := hrel
          have q_both := q4c KB.out
          by_cases hlt : t.b + (k : Int) < t.d
          · have ey : IntKind.i64.wrap (t.b + (k : Int) + 1) = t.b + (k : Int) + 1 := IntWalk.i64_in _ ⟨by omega, by omega⟩
            go_wp2_with fail
            obtain ⟨wo, rfl⟩ : ∃ wo : World, wo = wr := ⟨_, rfl⟩
            go_loopw [12] (fun vx wr => ∃ j : Nat, (j : Int) ≤ t.c - t.a ∧ vx = .int .i64 (t.a + j) ∧ Hid (wr.heap[g_q]? = some (.cells #[.int .i64 a, .int .i64 b, .int .i64 c, .int .i64 d] 25 (0, 0))) ∧ Hid (wr.heap[g_both]? = some (.cells #[.int .i64 t.a, .int .i64 t.b, .int .i64 t.c, .int .i64 t.d] 25 (0, 0))) ∧ Hid (wr.heap[g_p]? = some (.cells #[.int .i64 t.a, .int .i64 t.b, .int .i64 t.c, .int .i64 t.d, .int .i64 (4 * (c - a)), .slice (some ⟨g1, off1, none⟩) nl cp1] 31 (0, 0))) ∧ Hid (Rd wr wr.heap.size (some ⟨g1, off1, none⟩) nl ((byt N zs).drop o)) ∧ Hid (Below w.heap.size w wr)) (fun vx _ => (t.c - intOf vx).toNat)
            case atStart => exact ⟨0, by omega, by simp, KQ, KB, KP_, RR, BW⟩
            case round =>
              obtain ⟨j, hj, rfl, KQ1, KB1, KP1, RR1, BW1⟩ := hrel
              clear q_both
              have q_both := q4c KB1.out
              by_cases hlx : t.a + (j : Int) < t.c
              · have ex : IntKind.i64.wrap (t.a + (j : Int) + 1) = t.a + (j : Int) + 1 := IntWalk.i64_in _ ⟨by omega, by omega⟩
                have hin : In t.a t.b t.c t.d (t.a + j) (t.b + k) := ⟨by omega, by omega, by omega, by omega⟩
                obtain ⟨o2, ho2, hoN, hoR⟩ := place_part (R := ⟨a, b, c, d⟩) HN.out HL.out hin HO.out
                have HO2 := Lib.hid (And.intro ho2 hoR)
                have HIN := Lib.hid (show In a b c d (t.a + j) (t.b + k) from HL.out.inn hin)
                have hfit : o2 + 4 ≤ nl := by have := HNL.out; omega
                clear ho2 hoR hin hoN
                obtain ⟨v, hv⟩ : ∃ v, v = rdAt (byt N zs) a b c d (t.a + j) (t.b + k) := ⟨_, rfl⟩
                have hvv : v = px (byt N zs) (o + o2) := by rw [hv]; exact rdAt_in HIN.out HO2.out.2
                have HV := Lib.hid hv.symm
                clear hv
                have q_p := q6c KP1.out
                go_wp2_with fail
                refine (at_val t.a t.b t.c t.d (4 * (c - a)) 4 (t.a + j) (t.b + k) o2 nl cp1 4 (some ⟨g1, off1, none⟩) (by omega) (by omega) (by omega) (by omega) (by omega) (by omega) rfl (by decide) (by decide) HO2.out.1 (by omega) (by omega) CAP.out g1 off1 rfl _).mono ?_
                rintro e w2 ⟨rfl, bc⟩
                have k_q := bk bc KQ1.out
                have k_both := bk bc KB1.out
                have k_p := bk bc KP1.out
                have r1 := (RR1.out.below bc).more bc.size
                have bw := bst bc BW1.out
                clear bc q_both q_p
                have hcell : ∀ i, i < nl → w2.cell? ⟨g1, off1 + i, none⟩ = some (.int .i64 (((byt N zs).drop o).getD i 0)) := by
                  obtain ⟨b', off', hA, _, hc'⟩ := r1.2.2.2 hn0
                  injection hA with hA
                  injection hA with hA1 hA2
                  subst hA1 hA2
                  exact hc'
                have hv0 : v.a = ((byt N zs).drop o).getD (o2 + 0) 0 := by rw [hvv]; simp [px, List.getD, List.getElem?_drop, Nat.add_assoc]
                have hv1 : v.b = ((byt N zs).drop o).getD (o2 + 1) 0 := by rw [hvv]; simp [px, List.getD, List.getElem?_drop, Nat.add_assoc]
                have hv2 : v.c = ((byt N zs).drop o).getD (o2 + 2) 0 := by rw [hvv]; simp [px, List.getD, List.getElem?_drop, Nat.add_assoc]
                have hv3 : v.d = ((byt N zs).drop o).getD (o2 + 3) 0 := by rw [hvv]; simp [px, List.getD, List.getElem?_drop, Nat.add_assoc]
                have x0 : w2.cell? ⟨g1, off1 + o2, none⟩ = some (.int .i64 v.a) := by have := hcell (o2 + 0) (by omega); rw [← Nat.add_assoc] at this; rw [hv0]; simpa [Nat.add_assoc] using this
                have x1 : w2.cell? ⟨g1, off1 + o2 + 1, none⟩ = some (.int .i64 v.b) := by have := hcell (o2 + 1) (by omega); rw [← Nat.add_assoc] at this; rw [hv1]; simpa [Nat.add_assoc] using this
                have x2 : w2.cell? ⟨g1, off1 + o2 + 2, none⟩ = some (.int .i64 v.c) := by have := hcell (o2 + 2) (by omega); rw [← Nat.add_assoc] at this; rw [hv2]; simpa [Nat.add_assoc] using this
                have x3 : w2.cell? ⟨g1, off1 + o2 + 3, none⟩ = some (.int .i64 v.d) := by have := hcell (o2 + 3) (by omega); rw [← Nat.add_assoc] at this; rw [hv3]; simpa [Nat.add_assoc] using this
                have hcd := col_diff v.a v.b v.c v.d
                clear hcell hvv hv0 hv1 hv2 hv3
                go_upto_region 15 with fail
                refine wp_region_held_drew (S := fun w' => w'.cell? ⟨g_q, 0, none⟩ = some (.int .i64 a) ∧ w'.cell? ⟨g_q, 1, none⟩ = some (.int .i64 b) ∧ w'.cell? ⟨g_q, 2, none⟩ = some (.int .i64 c) ∧ w'.cell? ⟨g_q, 3, none⟩ = some (.int .i64 d) ∧ w'.cell? ⟨g1, off1 + o2, none⟩ = some (.int .i64 v.a) ∧ w'.cell? ⟨g1, off1 + o2 + 1, none⟩ = some (.int .i64 v.b) ∧ w'.cell? ⟨g1, off1 + o2 + 2, none⟩ = some (.int .i64 v.c) ∧ w'.cell? ⟨g1, off1 + o2 + 3, none⟩ = some (.int .i64 v.d)) (by kernel_rfl) ⟨(q4c k_q).1.1, (q4c k_q).1.2.1, (q4c k_q).1.2.2.1, (q4c k_q).1.2.2.2, (by assumption), (by assumption), (by assumption), (by assumption)⟩ ?_
                intro hHeld
                obtain ⟨X200, eX, bc⟩ : ∃ X, X = w2.drew ∧ Below w2.heap.size w2 X := ⟨_, rfl, (Below.refl _ _).drew⟩
                rw [← eX] at hHeld ⊢
                replace k_q := bk bc k_q
                replace k_both := bk bc k_both
                replace k_p := bk bc k_p
                replace bw := bst bc bw
                (try replace r1 := (r1.below bc).more bc.size)
                clear eX bc
                refine takx (i := 0) (D := 63) (v := .bool true) rfl rfl (by kernel_rfl) (by kernel_rfl) (by kernel_rfl) (fun _ _ _ h => h) (Or.inl ⟨by rfl, fun W hSw => by (try dsimp only at hSw); go_simp⟩) (by assumption) ?_
                (try simp only [List.setIfInBounds_toArray, List.set_cons_zero, List.set_cons_succ])
                refine takx (i := 1) (D := 64) (v := .bool false) rfl rfl (by kernel_rfl) (by kernel_rfl) (by kernel_rfl) (fun _ _ _ h => h) (Or.inl ⟨by rfl, fun W hSw => by (try dsimp only at hSw); go_simp⟩) (by assumption) ?_
                (try simp only [List.setIfInBounds_toArray, List.set_cons_zero, List.set_cons_succ])
                refine takx (i := 2) (D := 65) (v := .bool false) rfl rfl (by kernel_rfl) (by kernel_rfl) (by kernel_rfl) (fun _ _ _ h => h) (Or.inl ⟨by rfl, fun W hSw => by (try dsimp only at hSw); go_simp⟩) (by assumption) ?_
                (try simp only [List.setIfInBounds_toArray, List.set_cons_zero, List.set_cons_succ])
                refine takx (i := 3) (D := 66) (v := .slice (some ⟨g1, off1 + o2, none⟩) 4 (cp1 - o2)) rfl rfl (by kernel_rfl) (by kernel_rfl) (by kernel_rfl) (fun _ _ _ h => h) (Or.inl ⟨by rfl, fun W hSw => by (try dsimp only at hSw); go_simp⟩) (by assumption) ?_
                (try simp only [List.setIfInBounds_toArray, List.set_cons_zero, List.set_cons_succ])
                refine takx (i := 4) (D := 67) (v := .pointer (some ⟨g1, off1 + o2, none⟩)) rfl rfl (by kernel_rfl) (by kernel_rfl) (by kernel_rfl) (fun _ _ _ h => h) (Or.inl ⟨by rfl, fun W hSw => by (try dsimp only at hSw); go_simp⟩) (by assumption) ?_
                (try simp only [List.setIfInBounds_toArray, List.set_cons_zero, List.set_cons_succ])
                refine takx (i := 5) (D := 68) (v := .int .i64 v.a) rfl rfl (by kernel_rfl) (by kernel_rfl) (by kernel_rfl) (fun _ _ _ h => h) (Or.inl ⟨by rfl, fun W hSw => by (try dsimp only at hSw); go_simp⟩) (by assumption) ?_
                (try simp only [List.setIfInBounds_toArray, List.set_cons_zero, List.set_cons_succ])
                refine takx (i := 6) (D := 69) (v := .slice (some ⟨g1, off1 + o2, none⟩) 4 (cp1 - o2)) rfl rfl (by kernel_rfl) (by kernel_rfl) (by kernel_rfl) (fun _ _ _ h => h) (Or.inl ⟨by rfl, fun W hSw => by (try dsimp only at hSw); go_simp⟩) (by assumption) ?_
                (try simp only [List.setIfInBounds_toArray, List.set_cons_zero, List.set_cons_succ])
                refine takx (i := 7) (D := 70) (v := .pointer (some ⟨g1, off1 + o2 + 1, none⟩)) rfl rfl (by kernel_rfl) (by kernel_rfl) (by kernel_rfl) (fun _ _ _ h => h) (Or.inl ⟨by rfl, fun W hSw => by (try dsimp only at hSw); go_simp⟩) (by assumption) ?_
                (try simp only [List.setIfInBounds_toArray, List.set_cons_zero, List.set_cons_succ])
                refine takx (i := 8) (D := 71) (v := .int .i64 v.b) rfl rfl (by kernel_rfl) (by kernel_rfl) (by kernel_rfl) (fun _ _ _ h => h) (Or.inl ⟨by rfl, fun W hSw => by (try dsimp only at hSw); go_simp⟩) (by assumption) ?_
                (try simp only [List.setIfInBounds_toArray, List.set_cons_zero, List.set_cons_succ])
                refine takx (i := 9) (D := 72) (v := .slice (some ⟨g1, off1 + o2, none⟩) 4 (cp1 - o2)) rfl rfl (by kernel_rfl) (by kernel_rfl) (by kernel_rfl) (fun _ _ _ h => h) (Or.inl ⟨by rfl, fun W hSw => by (try dsimp only at hSw); go_simp⟩) (by assumption) ?_
                (try simp only [List.setIfInBounds_toArray, List.set_cons_zero, List.set_cons_succ])
                refine takx (i := 10) (D := 73) (v := .pointer (some ⟨g1, off1 + o2 + 2, none⟩)) rfl rfl (by kernel_rfl) (by kernel_rfl) (by kernel_rfl) (fun _ _ _ h => h) (Or.inl ⟨by rfl, fun W hSw => by (try dsimp only at hSw); go_simp⟩) (by assumption) ?_
                (try simp only [List.setIfInBounds_toArray, List.set_cons_zero, List.set_cons_succ])
                refine takx (i := 11) (D := 74) (v := .int .i64 v.c) rfl rfl (by kernel_rfl) (by kernel_rfl) (by kernel_rfl) (fun _ _ _ h => h) (Or.inl ⟨by rfl, fun W hSw => by (try dsimp only at hSw); go_simp⟩) (by assumption) ?_
                (try simp only [List.setIfInBounds_toArray, List.set_cons_zero, List.set_cons_succ])
                refine takx (i := 12) (D := 75) (v := .slice (some ⟨g1, off1 + o2, none⟩) 4 (cp1 - o2)) rfl rfl (by kernel_rfl) (by kernel_rfl) (by kernel_rfl) (fun _ _ _ h => h) (Or.inl ⟨by rfl, fun W hSw => by (try dsimp only at hSw); go_simp⟩) (by assumption) ?_
                (try simp only [List.setIfInBounds_toArray, List.set_cons_zero, List.set_cons_succ])
                refine takx (i := 13) (D := 76) (v := .pointer (some ⟨g1, off1 + o2 + 3, none⟩)) rfl rfl (by kernel_rfl) (by kernel_rfl) (by kernel_rfl) (fun _ _ _ h => h) (Or.inl ⟨by rfl, fun W hSw => by (try dsimp only at hSw); go_simp⟩) (by assumption) ?_
                (try simp only [List.setIfInBounds_toArray, List.set_cons_zero, List.set_cons_succ])
                refine takx (i := 14) (D := 77) (v := .int .i64 v.d) rfl rfl (by kernel_rfl) (by kernel_rfl) (by kernel_rfl) (fun _ _ _ h => h) (Or.inl ⟨by rfl, fun W hSw => by (try dsimp only at hSw); go_simp⟩) (by assumption) ?_
                (try simp only [List.setIfInBounds_toArray, List.set_cons_zero, List.set_cons_succ])
                refine takx (i := 15) (D := 78) (v := .agg #[.int .i64 v.a, .int .i64 v.b, .int .i64 v.c, .int .i64 v.d]) rfl rfl (by kernel_rfl) (by kernel_rfl) (by kernel_rfl) (fun _ _ _ h => h) (Or.inl ⟨by rfl, fun W hSw => by (try dsimp only at hSw); go_simp⟩) (by assumption) ?_
                (try simp only [List.setIfInBounds_toArray, List.set_cons_zero, List.set_cons_succ])
                refine takx (i := 16) (D := 79) (v := .agg #[.int .i64 a, .int .i64 b, .int .i64 c, .int .i64 d]) rfl rfl (by kernel_rfl) (by kernel_rfl) (by kernel_rfl) (fun _ _ _ h => h) (Or.inl ⟨by rfl, fun W hSw => by (try dsimp only at hSw); go_simp⟩) (by assumption) ?_
                (try simp only [List.setIfInBounds_toArray, List.set_cons_zero, List.set_cons_succ])
                refine takx (i := 17) (D := 80) (v := .slice Z n cp) rfl rfl (by kernel_rfl) (by kernel_rfl) (by kernel_rfl) (fun _ _ _ h => h) (Or.inl ⟨by rfl, fun W hSw => by (try dsimp only at hSw); go_simp⟩) (by assumption) ?_
                (try simp only [List.setIfInBounds_toArray, List.set_cons_zero, List.set_cons_succ])
                refine takx (i := 18) (D := 81) (v := .int .i64 (t.a + j)) rfl rfl (by kernel_rfl) (by kernel_rfl) (by kernel_rfl) (fun _ _ _ h => h) (Or.inl ⟨by rfl, fun W hSw => by (try dsimp only at hSw); go_simp⟩) (by assumption) ?_
                (try simp only [List.setIfInBounds_toArray, List.set_cons_zero, List.set_cons_succ])
                refine takx (i := 19) (D := 82) (v := .int .i64 (t.b + k)) rfl rfl (by kernel_rfl) (by kernel_rfl) (by kernel_rfl) (fun _ _ _ h => h) (Or.inl ⟨by rfl, fun W hSw => by (try dsimp only at hSw); go_simp⟩) (by assumption) ?_
                (try simp only [List.setIfInBounds_toArray, List.set_cons_zero, List.set_cons_succ])
                refine wpAnyH_ready (rs := [20]) (by kernel_rfl) (by simp) ?_
                refine (AllReadyH.cons rfl (fun K hK => ?_) AllReadyH.nil)
                go_simp
                refine ((snrgbaRead_any a b c d N h3 h4 h5 h6 HN.out n cp Z zs (t.a + j) (t.b + k) _ ((HR.out.below bw).more bw.size)).mono (fun e w' h => (⟨h.1.trans (by rw [HV.out]), h.2⟩ : e = Ending.returned (.agg #[.int .i64 v.a, .int .i64 v.b, .int .i64 v.c, .int .i64 v.d]) ∧ _))).mono ?_
                rintro e X201 ⟨rfl, bc⟩
                refine hK.out _ _ ⟨ck bc hHeld.1, ck bc hHeld.2.1, ck bc hHeld.2.2.1, ck bc hHeld.2.2.2.1, ck bc hHeld.2.2.2.2.1, ck bc hHeld.2.2.2.2.2.1, ck bc hHeld.2.2.2.2.2.2.1, ck bc hHeld.2.2.2.2.2.2.2⟩ (fun hHeld => ?_)
                clear hK K
                (try simp only [List.setIfInBounds_toArray, List.set_cons_zero, List.set_cons_succ])
                replace k_q := bk bc k_q
                replace k_both := bk bc k_both
                replace k_p := bk bc k_p
                replace bw := bst bc bw
                (try replace r1 := (r1.below bc).more bc.size)
                clear bc
                refine takx (i := 21) (D := 84) (v := .bool false) rfl rfl (by kernel_rfl) (by kernel_rfl) (by kernel_rfl) (fun _ _ _ h => h) (Or.inl ⟨by rfl, fun W hSw => by (try dsimp only at hSw); go_simp⟩) (by assumption) ?_
                (try simp only [List.setIfInBounds_toArray, List.set_cons_zero, List.set_cons_succ])
                refine takx (i := 22) (D := 85) (v := .bool false) rfl rfl (by kernel_rfl) (by kernel_rfl) (by kernel_rfl) (fun _ _ _ h => h) (Or.inl ⟨by rfl, fun W hSw => by (try dsimp only at hSw); go_simp⟩) (by assumption) ?_
                (try simp only [List.setIfInBounds_toArray, List.set_cons_zero, List.set_cons_succ])
                refine wpAnyH_done (by kernel_rfl) ?_ _
                have KQ2 := Lib.hid k_q
                have KB2 := Lib.hid k_both
                have KP2 := Lib.hid k_p
                have RR2 := Lib.hid r1
                have BW2 := Lib.hid bw
                clear hHeld k_q k_both k_p r1 bw x0 x1 x2 x3
                go_wp2
                go_roundw
                case rel => exact ⟨j + 1, by omega, by simp [Int.add_assoc], KQ2, KB2, KP2, RR2, BW2⟩
                case measure => simp [intOf]; omega
              · go_wp2
                go_roundw
                case rel => exact ⟨k + 1, by omega, by simp [Int.add_assoc], KQ1, KB1, KP1, RR1, BW1⟩
                case measure => simp [intOf]; omega
          · go_wp2
            go_ret
            first | exact ⟨rfl, BW.out⟩ | exact ⟨trivial, BW.out⟩

end Go.Proofs.Ytpllecddmpdaiaa

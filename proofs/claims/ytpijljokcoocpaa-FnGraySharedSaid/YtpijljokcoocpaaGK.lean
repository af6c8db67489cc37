/-
  The walk of the law FnGrayShared. No condition.
-/
import Derived.Test.YtpijljokcoocpaaGH
import Derived.Test.YtpijljokcoocpaaR5
namespace Go.Proofs.Ytpijljokcoocpaa
open Go.ChangeShapes Go.WideShapes Go.ChangeAt Go.RowKit
set_option linter.unusedVariables false
set_option linter.unusedSimpArgs false

theorem low_b (c : Int) (hc : I64 c) (w : World) :
    Calls Try.prog 39 #[.int .i64 c] w fun e w' => e = .returned (.int .i64 (c % 256)) ∧ Below w.heap.size w w' :=
  (low_any c hc w).mono fun _ _ ⟨h, k⟩ => ⟨h, k ▸ Below.refl _ _⟩

set_option maxRecDepth 100000 in
set_option maxHeartbeats 4000000 in
theorem fnGrayShared_walk (w : World) (q : Q4) (hq : q.ok) (Z : Option Addr) (n cp : Nat) (zs : List Int) (hr : Rd w w.heap.size Z n zs) (s : Q4) (hs : s.ok) (x : Int) (hx : I64 x) (y : Int) (hy : I64 y) (z : Int) (hz : I64 z) :
    Calls Try.prog 21 #[q.val, .slice Z n cp, s.val, .int .i64 x, .int .i64 y, .int .i64 z] w fun e w' => e = .returned (.bool true) ∧ Below w.heap.size w w' := by
  obtain ⟨a, b, c, d⟩ := q
  obtain ⟨ha, hb, hc, hd⟩ := hq
  show Calls Try.prog 21 #[.agg #[.int .i64 a, .int .i64 b, .int .i64 c, .int .i64 d], .slice Z n cp, .agg #[.int .i64 s.a, .int .i64 s.b, .int .i64 s.c, .int .i64 s.d], .int .i64 x, .int .i64 y, .int .i64 z] w _
  have hrs := rect_same a b c d
  have hrd := rect_diff a b c d
  have hp0 := fun st v => pfld0 a b c d st v
  have hp2 := fun st A n cp => pfld2 a b c d st A n cp
  have HR := Lib.hid hr
  clear hr
  by_cases hf : Fine a b c d
  case neg =>
    have HF := Lib.hid hf
    clear hf
    cases hc0 : com ⟨a, b, c, d⟩ s with
    | none =>
      have HC := Lib.hid hc0
      clear hc0
      go_enter Try.func21, Try.ntmps21
      go_wp2_with fail
      refine (toRect4 a b c d _).mono ?_
      rintro e w1 ⟨rfl, bc⟩
      have bw := bst bc (bsa (bsa (Below.refl _ _)))
      have k_r : w1.heap[w.heap.size]? = some (.cells #[.int .i64 a, .int .i64 b, .int .i64 c, .int .i64 d] 23 (0, 0)) := by have := bk bc (bka (heap_alloc_new w _)); simpa using this
      have k_s : w1.heap[w.heap.size + 1]? = some (.cells #[.int .i64 s.a, .int .i64 s.b, .int .i64 s.c, .int .i64 s.d] 23 (0, 0)) := by have := bk bc (heap_alloc_new (w.alloc (.cells #[.int .i64 a, .int .i64 b, .int .i64 c, .int .i64 d] 23)) _); simpa using this
      clear bc
      go_upto_region 2 with fail
      obtain ⟨Y1, g_q, eY, eg⟩ : ∃ Y g, Y = w1.alloc (.cells #[.int .i64 a, .int .i64 b, .int .i64 c, .int .i64 d] 26) ∧ g = w1.heap.size := ⟨_, _, rfl, rfl⟩
      rw [← eY, ← eg]
      have bc : Below w1.heap.size w1 Y1 := by rw [eY]; exact (Below.refl _ _).alloc (Nat.le_refl _) _
      have k_q : Y1.heap[g_q]? = some (.cells #[.int .i64 a, .int .i64 b, .int .i64 c, .int .i64 d] 26 (0, 0)) := by rw [eY, eg]; exact heap_alloc_new w1 _
      replace k_r := bk bc k_r
      replace k_s := bk bc k_s
      replace bw := bst bc bw
      clear bc eY eg
      go_cut [14, 15] (fun s14 s15 wx => ∃ (g_both : Nat), s14 = .pointer (some ⟨g_both, 0, none⟩) ∧ s15 = .bool false ∧ wx.heap[g_both]? = some (.cells #[.int .i64 0, .int .i64 0, .int .i64 0, .int .i64 0] 26 (0, 0)) ∧ wx.heap[w.heap.size]? = some (.cells #[.int .i64 a, .int .i64 b, .int .i64 c, .int .i64 d] 23 (0, 0)) ∧ wx.heap[w.heap.size + 1]? = some (.cells #[.int .i64 s.a, .int .i64 s.b, .int .i64 s.c, .int .i64 s.d] 23 (0, 0)) ∧ wx.heap[g_q]? = some (.cells #[.int .i64 a, .int .i64 b, .int .i64 c, .int .i64 d] 26 (0, 0)) ∧ Hid (Below w.heap.size w wx))
      case first =>
        refine wp_region_held_drew (S := fun w' => w'.cell? ⟨g_q, 0, none⟩ = some (.int .i64 a) ∧ w'.cell? ⟨g_q, 1, none⟩ = some (.int .i64 b) ∧ w'.cell? ⟨g_q, 2, none⟩ = some (.int .i64 c) ∧ w'.cell? ⟨g_q, 3, none⟩ = some (.int .i64 d) ∧ w'.cell? ⟨w.heap.size + 1, 0, none⟩ = some (.int .i64 s.a) ∧ w'.cell? ⟨w.heap.size + 1, 1, none⟩ = some (.int .i64 s.b) ∧ w'.cell? ⟨w.heap.size + 1, 2, none⟩ = some (.int .i64 s.c) ∧ w'.cell? ⟨w.heap.size + 1, 3, none⟩ = some (.int .i64 s.d)) (by kernel_rfl) ⟨(q4c k_q).1.1, (q4c k_q).1.2.1, (q4c k_q).1.2.2.1, (q4c k_q).1.2.2.2, (q4c k_s).1.1, (q4c k_s).1.2.1, (q4c k_s).1.2.2.1, (q4c k_s).1.2.2.2⟩ ?_
        intro hHeld
        obtain ⟨X2, eX, bc⟩ : ∃ X, X = Y1.drew ∧ Below Y1.heap.size Y1 X := ⟨_, rfl, (Below.refl _ _).drew⟩
        rw [← eX] at hHeld ⊢
        replace k_r := bk bc k_r
        replace k_s := bk bc k_s
        replace k_q := bk bc k_q
        replace bw := bst bc bw
        clear eX bc
        refine takx (i := 0) (D := 29) (v := .agg #[.int .i64 a, .int .i64 b, .int .i64 c, .int .i64 d]) rfl rfl (by kernel_rfl) (by kernel_rfl) (by kernel_rfl) (fun _ _ _ h => h) (Or.inl ⟨by rfl, fun W hSw => by (try dsimp only at hSw); go_simp⟩) (by assumption) ?_
        (try simp only [List.setIfInBounds_toArray, List.set_cons_zero, List.set_cons_succ])
        refine takx (i := 1) (D := 30) (v := .agg #[.int .i64 s.a, .int .i64 s.b, .int .i64 s.c, .int .i64 s.d]) rfl rfl (by kernel_rfl) (by kernel_rfl) (by kernel_rfl) (fun _ _ _ h => h) (Or.inl ⟨by rfl, fun W hSw => by (try dsimp only at hSw); go_simp⟩) (by assumption) ?_
        (try simp only [List.setIfInBounds_toArray, List.set_cons_zero, List.set_cons_succ])
        refine wpAnyH_ready (rs := [2, 7]) (by kernel_rfl) (by simp) ?_
        refine (AllReadyH.cons rfl (fun K hK => ?_) (AllReadyH.cons rfl (fun K hK => ?_) AllReadyH.nil))
        · go_simp
          refine (toRect4 s.a s.b s.c s.d _).mono ?_
          rintro e X3 ⟨rfl, bc⟩
          refine hK.out _ _ ⟨ck bc hHeld.1, ck bc hHeld.2.1, ck bc hHeld.2.2.1, ck bc hHeld.2.2.2.1, ck bc hHeld.2.2.2.2.1, ck bc hHeld.2.2.2.2.2.1, ck bc hHeld.2.2.2.2.2.2.1, ck bc hHeld.2.2.2.2.2.2.2⟩ (fun hHeld => ?_)
          clear hK K
          (try simp only [List.setIfInBounds_toArray, List.set_cons_zero, List.set_cons_succ])
          replace k_r := bk bc k_r
          replace k_s := bk bc k_s
          replace k_q := bk bc k_q
          replace bw := bst bc bw
          clear bc
          refine wpAnyH_ready (rs := [3, 7]) (by kernel_rfl) (by simp) ?_
          refine (AllReadyH.cons rfl (fun K hK => ?_) (AllReadyH.cons rfl (fun K hK => ?_) AllReadyH.nil))
          · go_simp
            refine (common_none ⟨a, b, c, d⟩ s HC.out _).mono ?_
            rintro e X4 ⟨rfl, bc⟩
            refine hK.out _ _ ⟨ck bc hHeld.1, ck bc hHeld.2.1, ck bc hHeld.2.2.1, ck bc hHeld.2.2.2.1, ck bc hHeld.2.2.2.2.1, ck bc hHeld.2.2.2.2.2.1, ck bc hHeld.2.2.2.2.2.2.1, ck bc hHeld.2.2.2.2.2.2.2⟩ (fun hHeld => ?_)
            clear hK K
            (try simp only [List.setIfInBounds_toArray, List.set_cons_zero, List.set_cons_succ])
            replace k_r := bk bc k_r
            replace k_s := bk bc k_s
            replace k_q := bk bc k_q
            replace bw := bst bc bw
            clear bc
            refine takx (i := 4) (D := 28) (v := .tuple #[.agg #[.int .i64 0, .int .i64 0, .int .i64 0, .int .i64 0], .bool false]) rfl rfl (by kernel_rfl) (by kernel_rfl) (by kernel_rfl) (fun _ _ _ h => h) (Or.inl ⟨by rfl, fun W hSw => by (try dsimp only at hSw); go_simp⟩) (by assumption) ?_
            (try simp only [List.setIfInBounds_toArray, List.set_cons_zero, List.set_cons_succ])
            refine takx (i := 5) (D := 33) (v := .agg #[.int .i64 0, .int .i64 0, .int .i64 0, .int .i64 0]) rfl rfl (by kernel_rfl) (by kernel_rfl) (by kernel_rfl) (fun _ _ _ h => h) (Or.inl ⟨by rfl, fun W hSw => by (try dsimp only at hSw); go_simp⟩) (by assumption) ?_
            (try simp only [List.setIfInBounds_toArray, List.set_cons_zero, List.set_cons_succ])
            refine takx (i := 6) (D := 34) (v := .bool false) rfl rfl (by kernel_rfl) (by kernel_rfl) (by kernel_rfl) (fun _ _ _ h => h) (Or.inl ⟨by rfl, fun W hSw => by (try dsimp only at hSw); go_simp⟩) (by assumption) ?_
            (try simp only [List.setIfInBounds_toArray, List.set_cons_zero, List.set_cons_succ])
            refine wpAnyH_ready (rs := [7]) (by kernel_rfl) (by simp) ?_
            refine (AllReadyH.cons rfl (fun K hK => ?_) AllReadyH.nil)
            go_simp
            refine hK.out _ _ ⟨cka hHeld.1, cka hHeld.2.1, cka hHeld.2.2.1, cka hHeld.2.2.2.1, cka hHeld.2.2.2.2.1, cka hHeld.2.2.2.2.2.1, cka hHeld.2.2.2.2.2.2.1, cka hHeld.2.2.2.2.2.2.2⟩ (fun hHeld => ?_)
            clear hK K
            (try simp only [List.setIfInBounds_toArray, List.set_cons_zero, List.set_cons_succ])
            obtain ⟨X5, g5, eY, eg⟩ : ∃ Y g, Y = X4.alloc (.cells #[.int .i64 0, .int .i64 0, .int .i64 0, .int .i64 0] 26) ∧ g = X4.heap.size := ⟨_, _, rfl, rfl⟩
            rw [← eY, ← eg]
            rw [← eY] at hHeld
            have bc : Below X4.heap.size X4 X5 := by rw [eY]; exact (Below.refl _ _).alloc (Nat.le_refl _) _
            have k_n14 : X5.heap[g5]? = some (.cells #[.int .i64 0, .int .i64 0, .int .i64 0, .int .i64 0] 26 (0, 0)) := by rw [eY, eg]; exact heap_alloc_new X4 _
            have lo_n14 : w.heap.size ≤ g5 := by rw [eg]; exact bw.size
            have ne_r_n14 : ¬ w.heap.size = g5 := ne_new k_r eg
            have ne_s_n14 : ¬ w.heap.size + 1 = g5 := ne_new k_s eg
            have ne_q_n14 : ¬ g_q = g5 := ne_new k_q eg
            replace k_r := bk bc k_r
            replace k_s := bk bc k_s
            replace k_q := bk bc k_q
            replace bw := bst bc bw
            clear bc eY eg
            refine wpAnyH_ready (rs := [8]) (by kernel_rfl) (by simp) ?_
            refine (AllReadyH.cons rfl (fun K hK => ?_) AllReadyH.nil)
            have qq := q4c k_n14
            go_simp
            clear qq
            refine hK.out _ _ ⟨(cks ne_q_n14 (cks ne_q_n14 (cks ne_q_n14 (cks ne_q_n14 hHeld.1)))), (cks ne_q_n14 (cks ne_q_n14 (cks ne_q_n14 (cks ne_q_n14 hHeld.2.1)))), (cks ne_q_n14 (cks ne_q_n14 (cks ne_q_n14 (cks ne_q_n14 hHeld.2.2.1)))), (cks ne_q_n14 (cks ne_q_n14 (cks ne_q_n14 (cks ne_q_n14 hHeld.2.2.2.1)))), (cks ne_s_n14 (cks ne_s_n14 (cks ne_s_n14 (cks ne_s_n14 hHeld.2.2.2.2.1)))), (cks ne_s_n14 (cks ne_s_n14 (cks ne_s_n14 (cks ne_s_n14 hHeld.2.2.2.2.2.1)))), (cks ne_s_n14 (cks ne_s_n14 (cks ne_s_n14 (cks ne_s_n14 hHeld.2.2.2.2.2.2.1)))), (cks ne_s_n14 (cks ne_s_n14 (cks ne_s_n14 (cks ne_s_n14 hHeld.2.2.2.2.2.2.2))))⟩ (fun hHeld => ?_)
            clear hK K
            (try simp only [List.setIfInBounds_toArray, List.set_cons_zero, List.set_cons_succ])
            obtain ⟨X6, eY⟩ : ∃ Y, Y = ((((X5.setCell ⟨g5, 0, none⟩ (.int .i64 0)).setCell ⟨g5, 1, none⟩ (.int .i64 0)).setCell ⟨g5, 2, none⟩ (.int .i64 0)).setCell ⟨g5, 3, none⟩ (.int .i64 0)) := ⟨_, rfl⟩
            rw [← eY] at hHeld ⊢
            replace k_r : X6.heap[w.heap.size]? = some (.cells #[.int .i64 a, .int .i64 b, .int .i64 c, .int .i64 d] 23 (0, 0)) := by rw [eY]; exact (bks ne_r_n14 (bks ne_r_n14 (bks ne_r_n14 (bks ne_r_n14 k_r))))
            replace k_s : X6.heap[w.heap.size + 1]? = some (.cells #[.int .i64 s.a, .int .i64 s.b, .int .i64 s.c, .int .i64 s.d] 23 (0, 0)) := by rw [eY]; exact (bks ne_s_n14 (bks ne_s_n14 (bks ne_s_n14 (bks ne_s_n14 k_s))))
            replace k_q : X6.heap[g_q]? = some (.cells #[.int .i64 a, .int .i64 b, .int .i64 c, .int .i64 d] 26 (0, 0)) := by rw [eY]; exact (bks ne_q_n14 (bks ne_q_n14 (bks ne_q_n14 (bks ne_q_n14 k_q))))
            replace bw : Below w.heap.size w X6 := by rw [eY]; exact (bss lo_n14 (bss lo_n14 (bss lo_n14 (bss lo_n14 bw))))
            replace k_n14 : X6.heap[g5]? = some (.cells #[.int .i64 0, .int .i64 0, .int .i64 0, .int .i64 0] 26 (0, 0)) := by rw [eY]; exact q4s k_n14
            clear eY
            refine takx (i := 9) (D := 15) (v := .bool false) rfl rfl (by kernel_rfl) (by kernel_rfl) (by kernel_rfl) (fun _ _ _ h => h) (Or.inl ⟨by rfl, fun W hSw => by (try dsimp only at hSw); go_simp⟩) (by assumption) ?_
            (try simp only [List.setIfInBounds_toArray, List.set_cons_zero, List.set_cons_succ])
            refine wpAnyH_done (by kernel_rfl) ?_ _
            go_wp2_with fail
            go_meet
            exact ⟨_, rfl, rfl, k_n14, k_r, k_s, k_q, bw⟩
          · go_simp
            refine hK.out _ _ ⟨cka hHeld.1, cka hHeld.2.1, cka hHeld.2.2.1, cka hHeld.2.2.2.1, cka hHeld.2.2.2.2.1, cka hHeld.2.2.2.2.2.1, cka hHeld.2.2.2.2.2.2.1, cka hHeld.2.2.2.2.2.2.2⟩ (fun hHeld => ?_)
            clear hK K
            (try simp only [List.setIfInBounds_toArray, List.set_cons_zero, List.set_cons_succ])
            obtain ⟨X7, g7, eY, eg⟩ : ∃ Y g, Y = X3.alloc (.cells #[.int .i64 0, .int .i64 0, .int .i64 0, .int .i64 0] 26) ∧ g = X3.heap.size := ⟨_, _, rfl, rfl⟩
            rw [← eY, ← eg]
            rw [← eY] at hHeld
            have bc : Below X3.heap.size X3 X7 := by rw [eY]; exact (Below.refl _ _).alloc (Nat.le_refl _) _
            have k_n14 : X7.heap[g7]? = some (.cells #[.int .i64 0, .int .i64 0, .int .i64 0, .int .i64 0] 26 (0, 0)) := by rw [eY, eg]; exact heap_alloc_new X3 _
            have lo_n14 : w.heap.size ≤ g7 := by rw [eg]; exact bw.size
            have ne_r_n14 : ¬ w.heap.size = g7 := ne_new k_r eg
            have ne_s_n14 : ¬ w.heap.size + 1 = g7 := ne_new k_s eg
            have ne_q_n14 : ¬ g_q = g7 := ne_new k_q eg
            replace k_r := bk bc k_r
            replace k_s := bk bc k_s
            replace k_q := bk bc k_q
            replace bw := bst bc bw
            clear bc eY eg
            refine wpAnyH_ready (rs := [3]) (by kernel_rfl) (by simp) ?_
            refine (AllReadyH.cons rfl (fun K hK => ?_) AllReadyH.nil)
            go_simp
            refine (common_none ⟨a, b, c, d⟩ s HC.out _).mono ?_
            rintro e X8 ⟨rfl, bc⟩
            refine hK.out _ _ ⟨ck bc hHeld.1, ck bc hHeld.2.1, ck bc hHeld.2.2.1, ck bc hHeld.2.2.2.1, ck bc hHeld.2.2.2.2.1, ck bc hHeld.2.2.2.2.2.1, ck bc hHeld.2.2.2.2.2.2.1, ck bc hHeld.2.2.2.2.2.2.2⟩ (fun hHeld => ?_)
            clear hK K
            (try simp only [List.setIfInBounds_toArray, List.set_cons_zero, List.set_cons_succ])
            replace k_r := bk bc k_r
            replace k_s := bk bc k_s
            replace k_q := bk bc k_q
            replace k_n14 := bk bc k_n14
            replace bw := bst bc bw
            clear bc
            refine takx (i := 4) (D := 28) (v := .tuple #[.agg #[.int .i64 0, .int .i64 0, .int .i64 0, .int .i64 0], .bool false]) rfl rfl (by kernel_rfl) (by kernel_rfl) (by kernel_rfl) (fun _ _ _ h => h) (Or.inl ⟨by rfl, fun W hSw => by (try dsimp only at hSw); go_simp⟩) (by assumption) ?_
            (try simp only [List.setIfInBounds_toArray, List.set_cons_zero, List.set_cons_succ])
            refine takx (i := 5) (D := 33) (v := .agg #[.int .i64 0, .int .i64 0, .int .i64 0, .int .i64 0]) rfl rfl (by kernel_rfl) (by kernel_rfl) (by kernel_rfl) (fun _ _ _ h => h) (Or.inl ⟨by rfl, fun W hSw => by (try dsimp only at hSw); go_simp⟩) (by assumption) ?_
            (try simp only [List.setIfInBounds_toArray, List.set_cons_zero, List.set_cons_succ])
            refine takx (i := 6) (D := 34) (v := .bool false) rfl rfl (by kernel_rfl) (by kernel_rfl) (by kernel_rfl) (fun _ _ _ h => h) (Or.inl ⟨by rfl, fun W hSw => by (try dsimp only at hSw); go_simp⟩) (by assumption) ?_
            (try simp only [List.setIfInBounds_toArray, List.set_cons_zero, List.set_cons_succ])
            refine wpAnyH_ready (rs := [8]) (by kernel_rfl) (by simp) ?_
            refine (AllReadyH.cons rfl (fun K hK => ?_) AllReadyH.nil)
            have qq := q4c k_n14
            go_simp
            clear qq
            refine hK.out _ _ ⟨(cks ne_q_n14 (cks ne_q_n14 (cks ne_q_n14 (cks ne_q_n14 hHeld.1)))), (cks ne_q_n14 (cks ne_q_n14 (cks ne_q_n14 (cks ne_q_n14 hHeld.2.1)))), (cks ne_q_n14 (cks ne_q_n14 (cks ne_q_n14 (cks ne_q_n14 hHeld.2.2.1)))), (cks ne_q_n14 (cks ne_q_n14 (cks ne_q_n14 (cks ne_q_n14 hHeld.2.2.2.1)))), (cks ne_s_n14 (cks ne_s_n14 (cks ne_s_n14 (cks ne_s_n14 hHeld.2.2.2.2.1)))), (cks ne_s_n14 (cks ne_s_n14 (cks ne_s_n14 (cks ne_s_n14 hHeld.2.2.2.2.2.1)))), (cks ne_s_n14 (cks ne_s_n14 (cks ne_s_n14 (cks ne_s_n14 hHeld.2.2.2.2.2.2.1)))), (cks ne_s_n14 (cks ne_s_n14 (cks ne_s_n14 (cks ne_s_n14 hHeld.2.2.2.2.2.2.2))))⟩ (fun hHeld => ?_)
            clear hK K
            (try simp only [List.setIfInBounds_toArray, List.set_cons_zero, List.set_cons_succ])
            obtain ⟨X9, eY⟩ : ∃ Y, Y = ((((X8.setCell ⟨g7, 0, none⟩ (.int .i64 0)).setCell ⟨g7, 1, none⟩ (.int .i64 0)).setCell ⟨g7, 2, none⟩ (.int .i64 0)).setCell ⟨g7, 3, none⟩ (.int .i64 0)) := ⟨_, rfl⟩
            rw [← eY] at hHeld ⊢
            replace k_r : X9.heap[w.heap.size]? = some (.cells #[.int .i64 a, .int .i64 b, .int .i64 c, .int .i64 d] 23 (0, 0)) := by rw [eY]; exact (bks ne_r_n14 (bks ne_r_n14 (bks ne_r_n14 (bks ne_r_n14 k_r))))
            replace k_s : X9.heap[w.heap.size + 1]? = some (.cells #[.int .i64 s.a, .int .i64 s.b, .int .i64 s.c, .int .i64 s.d] 23 (0, 0)) := by rw [eY]; exact (bks ne_s_n14 (bks ne_s_n14 (bks ne_s_n14 (bks ne_s_n14 k_s))))
            replace k_q : X9.heap[g_q]? = some (.cells #[.int .i64 a, .int .i64 b, .int .i64 c, .int .i64 d] 26 (0, 0)) := by rw [eY]; exact (bks ne_q_n14 (bks ne_q_n14 (bks ne_q_n14 (bks ne_q_n14 k_q))))
            replace bw : Below w.heap.size w X9 := by rw [eY]; exact (bss lo_n14 (bss lo_n14 (bss lo_n14 (bss lo_n14 bw))))
            replace k_n14 : X9.heap[g7]? = some (.cells #[.int .i64 0, .int .i64 0, .int .i64 0, .int .i64 0] 26 (0, 0)) := by rw [eY]; exact q4s k_n14
            clear eY
            refine takx (i := 9) (D := 15) (v := .bool false) rfl rfl (by kernel_rfl) (by kernel_rfl) (by kernel_rfl) (fun _ _ _ h => h) (Or.inl ⟨by rfl, fun W hSw => by (try dsimp only at hSw); go_simp⟩) (by assumption) ?_
            (try simp only [List.setIfInBounds_toArray, List.set_cons_zero, List.set_cons_succ])
            refine wpAnyH_done (by kernel_rfl) ?_ _
            go_wp2_with fail
            go_meet
            exact ⟨_, rfl, rfl, k_n14, k_r, k_s, k_q, bw⟩
        · go_simp
          refine hK.out _ _ ⟨cka hHeld.1, cka hHeld.2.1, cka hHeld.2.2.1, cka hHeld.2.2.2.1, cka hHeld.2.2.2.2.1, cka hHeld.2.2.2.2.2.1, cka hHeld.2.2.2.2.2.2.1, cka hHeld.2.2.2.2.2.2.2⟩ (fun hHeld => ?_)
          clear hK K
          (try simp only [List.setIfInBounds_toArray, List.set_cons_zero, List.set_cons_succ])
          obtain ⟨X10, g10, eY, eg⟩ : ∃ Y g, Y = X2.alloc (.cells #[.int .i64 0, .int .i64 0, .int .i64 0, .int .i64 0] 26) ∧ g = X2.heap.size := ⟨_, _, rfl, rfl⟩
          rw [← eY, ← eg]
          rw [← eY] at hHeld
          have bc : Below X2.heap.size X2 X10 := by rw [eY]; exact (Below.refl _ _).alloc (Nat.le_refl _) _
          have k_n14 : X10.heap[g10]? = some (.cells #[.int .i64 0, .int .i64 0, .int .i64 0, .int .i64 0] 26 (0, 0)) := by rw [eY, eg]; exact heap_alloc_new X2 _
          have lo_n14 : w.heap.size ≤ g10 := by rw [eg]; exact bw.size
          have ne_r_n14 : ¬ w.heap.size = g10 := ne_new k_r eg
          have ne_s_n14 : ¬ w.heap.size + 1 = g10 := ne_new k_s eg
          have ne_q_n14 : ¬ g_q = g10 := ne_new k_q eg
          replace k_r := bk bc k_r
          replace k_s := bk bc k_s
          replace k_q := bk bc k_q
          replace bw := bst bc bw
          clear bc eY eg
          refine wpAnyH_ready (rs := [2]) (by kernel_rfl) (by simp) ?_
          refine (AllReadyH.cons rfl (fun K hK => ?_) AllReadyH.nil)
          go_simp
          refine (toRect4 s.a s.b s.c s.d _).mono ?_
          rintro e X11 ⟨rfl, bc⟩
          refine hK.out _ _ ⟨ck bc hHeld.1, ck bc hHeld.2.1, ck bc hHeld.2.2.1, ck bc hHeld.2.2.2.1, ck bc hHeld.2.2.2.2.1, ck bc hHeld.2.2.2.2.2.1, ck bc hHeld.2.2.2.2.2.2.1, ck bc hHeld.2.2.2.2.2.2.2⟩ (fun hHeld => ?_)
          clear hK K
          (try simp only [List.setIfInBounds_toArray, List.set_cons_zero, List.set_cons_succ])
          replace k_r := bk bc k_r
          replace k_s := bk bc k_s
          replace k_q := bk bc k_q
          replace k_n14 := bk bc k_n14
          replace bw := bst bc bw
          clear bc
          refine wpAnyH_ready (rs := [3]) (by kernel_rfl) (by simp) ?_
          refine (AllReadyH.cons rfl (fun K hK => ?_) AllReadyH.nil)
          go_simp
          refine (common_none ⟨a, b, c, d⟩ s HC.out _).mono ?_
          rintro e X12 ⟨rfl, bc⟩
          refine hK.out _ _ ⟨ck bc hHeld.1, ck bc hHeld.2.1, ck bc hHeld.2.2.1, ck bc hHeld.2.2.2.1, ck bc hHeld.2.2.2.2.1, ck bc hHeld.2.2.2.2.2.1, ck bc hHeld.2.2.2.2.2.2.1, ck bc hHeld.2.2.2.2.2.2.2⟩ (fun hHeld => ?_)
          clear hK K
          (try simp only [List.setIfInBounds_toArray, List.set_cons_zero, List.set_cons_succ])
          replace k_r := bk bc k_r
          replace k_s := bk bc k_s
          replace k_q := bk bc k_q
          replace k_n14 := bk bc k_n14
          replace bw := bst bc bw
          clear bc
          refine takx (i := 4) (D := 28) (v := .tuple #[.agg #[.int .i64 0, .int .i64 0, .int .i64 0, .int .i64 0], .bool false]) rfl rfl (by kernel_rfl) (by kernel_rfl) (by kernel_rfl) (fun _ _ _ h => h) (Or.inl ⟨by rfl, fun W hSw => by (try dsimp only at hSw); go_simp⟩) (by assumption) ?_
          (try simp only [List.setIfInBounds_toArray, List.set_cons_zero, List.set_cons_succ])
          refine takx (i := 5) (D := 33) (v := .agg #[.int .i64 0, .int .i64 0, .int .i64 0, .int .i64 0]) rfl rfl (by kernel_rfl) (by kernel_rfl) (by kernel_rfl) (fun _ _ _ h => h) (Or.inl ⟨by rfl, fun W hSw => by (try dsimp only at hSw); go_simp⟩) (by assumption) ?_
          (try simp only [List.setIfInBounds_toArray, List.set_cons_zero, List.set_cons_succ])
          refine takx (i := 6) (D := 34) (v := .bool false) rfl rfl (by kernel_rfl) (by kernel_rfl) (by kernel_rfl) (fun _ _ _ h => h) (Or.inl ⟨by rfl, fun W hSw => by (try dsimp only at hSw); go_simp⟩) (by assumption) ?_
          (try simp only [List.setIfInBounds_toArray, List.set_cons_zero, List.set_cons_succ])
          refine wpAnyH_ready (rs := [8]) (by kernel_rfl) (by simp) ?_
          refine (AllReadyH.cons rfl (fun K hK => ?_) AllReadyH.nil)
          have qq := q4c k_n14
          go_simp
          clear qq
          refine hK.out _ _ ⟨(cks ne_q_n14 (cks ne_q_n14 (cks ne_q_n14 (cks ne_q_n14 hHeld.1)))), (cks ne_q_n14 (cks ne_q_n14 (cks ne_q_n14 (cks ne_q_n14 hHeld.2.1)))), (cks ne_q_n14 (cks ne_q_n14 (cks ne_q_n14 (cks ne_q_n14 hHeld.2.2.1)))), (cks ne_q_n14 (cks ne_q_n14 (cks ne_q_n14 (cks ne_q_n14 hHeld.2.2.2.1)))), (cks ne_s_n14 (cks ne_s_n14 (cks ne_s_n14 (cks ne_s_n14 hHeld.2.2.2.2.1)))), (cks ne_s_n14 (cks ne_s_n14 (cks ne_s_n14 (cks ne_s_n14 hHeld.2.2.2.2.2.1)))), (cks ne_s_n14 (cks ne_s_n14 (cks ne_s_n14 (cks ne_s_n14 hHeld.2.2.2.2.2.2.1)))), (cks ne_s_n14 (cks ne_s_n14 (cks ne_s_n14 (cks ne_s_n14 hHeld.2.2.2.2.2.2.2))))⟩ (fun hHeld => ?_)
          clear hK K
          (try simp only [List.setIfInBounds_toArray, List.set_cons_zero, List.set_cons_succ])
          obtain ⟨X13, eY⟩ : ∃ Y, Y = ((((X12.setCell ⟨g10, 0, none⟩ (.int .i64 0)).setCell ⟨g10, 1, none⟩ (.int .i64 0)).setCell ⟨g10, 2, none⟩ (.int .i64 0)).setCell ⟨g10, 3, none⟩ (.int .i64 0)) := ⟨_, rfl⟩
          rw [← eY] at hHeld ⊢
          replace k_r : X13.heap[w.heap.size]? = some (.cells #[.int .i64 a, .int .i64 b, .int .i64 c, .int .i64 d] 23 (0, 0)) := by rw [eY]; exact (bks ne_r_n14 (bks ne_r_n14 (bks ne_r_n14 (bks ne_r_n14 k_r))))
          replace k_s : X13.heap[w.heap.size + 1]? = some (.cells #[.int .i64 s.a, .int .i64 s.b, .int .i64 s.c, .int .i64 s.d] 23 (0, 0)) := by rw [eY]; exact (bks ne_s_n14 (bks ne_s_n14 (bks ne_s_n14 (bks ne_s_n14 k_s))))
          replace k_q : X13.heap[g_q]? = some (.cells #[.int .i64 a, .int .i64 b, .int .i64 c, .int .i64 d] 26 (0, 0)) := by rw [eY]; exact (bks ne_q_n14 (bks ne_q_n14 (bks ne_q_n14 (bks ne_q_n14 k_q))))
          replace bw : Below w.heap.size w X13 := by rw [eY]; exact (bss lo_n14 (bss lo_n14 (bss lo_n14 (bss lo_n14 bw))))
          replace k_n14 : X13.heap[g10]? = some (.cells #[.int .i64 0, .int .i64 0, .int .i64 0, .int .i64 0] 26 (0, 0)) := by rw [eY]; exact q4s k_n14
          clear eY
          refine takx (i := 9) (D := 15) (v := .bool false) rfl rfl (by kernel_rfl) (by kernel_rfl) (by kernel_rfl) (fun _ _ _ h => h) (Or.inl ⟨by rfl, fun W hSw => by (try dsimp only at hSw); go_simp⟩) (by assumption) ?_
          (try simp only [List.setIfInBounds_toArray, List.set_cons_zero, List.set_cons_succ])
          refine wpAnyH_done (by kernel_rfl) ?_ _
          go_wp2_with fail
          go_meet
          exact ⟨_, rfl, rfl, k_n14, k_r, k_s, k_q, bw⟩
      case rest =>
        clear k_r k_s k_q bw
        obtain ⟨g_both, rfl, rfl, k_both, k_r, k_s, k_q, BW⟩ := hcut
        have bw := BW.out
        clear BW
        have q_r := q4c k_r
        have q_s := q4c k_s
        have q_q := q4c k_q
        have q_both := q4c k_both
        go_wp2_with fail
        refine (fine_no a b c d ha hb hc hd HF.out _).mono ?_
        rintro e Y15 ⟨rfl, bc⟩
        clear q_r q_s q_q q_both
        replace k_r := bk bc k_r
        replace k_s := bk bc k_s
        replace k_q := bk bc k_q
        replace k_both := bk bc k_both
        replace bw := bst bc bw
        clear bc
        go_wp2
        go_ret
        exact ⟨rfl, bw⟩
    | some t =>
      have HC := Lib.hid hc0
      clear hc0
      go_enter Try.func21, Try.ntmps21
      go_wp2_with fail
      refine (toRect4 a b c d _).mono ?_
      rintro e w1 ⟨rfl, bc⟩
      have bw := bst bc (bsa (bsa (Below.refl _ _)))
      have k_r : w1.heap[w.heap.size]? = some (.cells #[.int .i64 a, .int .i64 b, .int .i64 c, .int .i64 d] 23 (0, 0)) := by have := bk bc (bka (heap_alloc_new w _)); simpa using this
      have k_s : w1.heap[w.heap.size + 1]? = some (.cells #[.int .i64 s.a, .int .i64 s.b, .int .i64 s.c, .int .i64 s.d] 23 (0, 0)) := by have := bk bc (heap_alloc_new (w.alloc (.cells #[.int .i64 a, .int .i64 b, .int .i64 c, .int .i64 d] 23)) _); simpa using this
      clear bc
      go_upto_region 2 with fail
      obtain ⟨Y1, g_q, eY, eg⟩ : ∃ Y g, Y = w1.alloc (.cells #[.int .i64 a, .int .i64 b, .int .i64 c, .int .i64 d] 26) ∧ g = w1.heap.size := ⟨_, _, rfl, rfl⟩
      rw [← eY, ← eg]
      have bc : Below w1.heap.size w1 Y1 := by rw [eY]; exact (Below.refl _ _).alloc (Nat.le_refl _) _
      have k_q : Y1.heap[g_q]? = some (.cells #[.int .i64 a, .int .i64 b, .int .i64 c, .int .i64 d] 26 (0, 0)) := by rw [eY, eg]; exact heap_alloc_new w1 _
      replace k_r := bk bc k_r
      replace k_s := bk bc k_s
      replace bw := bst bc bw
      clear bc eY eg
      go_cut [14, 15] (fun s14 s15 wx => ∃ (g_both : Nat), s14 = .pointer (some ⟨g_both, 0, none⟩) ∧ s15 = .bool true ∧ wx.heap[g_both]? = some (.cells #[.int .i64 t.a, .int .i64 t.b, .int .i64 t.c, .int .i64 t.d] 26 (0, 0)) ∧ wx.heap[w.heap.size]? = some (.cells #[.int .i64 a, .int .i64 b, .int .i64 c, .int .i64 d] 23 (0, 0)) ∧ wx.heap[w.heap.size + 1]? = some (.cells #[.int .i64 s.a, .int .i64 s.b, .int .i64 s.c, .int .i64 s.d] 23 (0, 0)) ∧ wx.heap[g_q]? = some (.cells #[.int .i64 a, .int .i64 b, .int .i64 c, .int .i64 d] 26 (0, 0)) ∧ Hid (Below w.heap.size w wx))
      case first =>
        refine wp_region_held_drew (S := fun w' => w'.cell? ⟨g_q, 0, none⟩ = some (.int .i64 a) ∧ w'.cell? ⟨g_q, 1, none⟩ = some (.int .i64 b) ∧ w'.cell? ⟨g_q, 2, none⟩ = some (.int .i64 c) ∧ w'.cell? ⟨g_q, 3, none⟩ = some (.int .i64 d) ∧ w'.cell? ⟨w.heap.size + 1, 0, none⟩ = some (.int .i64 s.a) ∧ w'.cell? ⟨w.heap.size + 1, 1, none⟩ = some (.int .i64 s.b) ∧ w'.cell? ⟨w.heap.size + 1, 2, none⟩ = some (.int .i64 s.c) ∧ w'.cell? ⟨w.heap.size + 1, 3, none⟩ = some (.int .i64 s.d)) (by kernel_rfl) ⟨(q4c k_q).1.1, (q4c k_q).1.2.1, (q4c k_q).1.2.2.1, (q4c k_q).1.2.2.2, (q4c k_s).1.1, (q4c k_s).1.2.1, (q4c k_s).1.2.2.1, (q4c k_s).1.2.2.2⟩ ?_
        intro hHeld
        obtain ⟨X2, eX, bc⟩ : ∃ X, X = Y1.drew ∧ Below Y1.heap.size Y1 X := ⟨_, rfl, (Below.refl _ _).drew⟩
        rw [← eX] at hHeld ⊢
        replace k_r := bk bc k_r
        replace k_s := bk bc k_s
        replace k_q := bk bc k_q
        replace bw := bst bc bw
        clear eX bc
        refine takx (i := 0) (D := 29) (v := .agg #[.int .i64 a, .int .i64 b, .int .i64 c, .int .i64 d]) rfl rfl (by kernel_rfl) (by kernel_rfl) (by kernel_rfl) (fun _ _ _ h => h) (Or.inl ⟨by rfl, fun W hSw => by (try dsimp only at hSw); go_simp⟩) (by assumption) ?_
        (try simp only [List.setIfInBounds_toArray, List.set_cons_zero, List.set_cons_succ])
        refine takx (i := 1) (D := 30) (v := .agg #[.int .i64 s.a, .int .i64 s.b, .int .i64 s.c, .int .i64 s.d]) rfl rfl (by kernel_rfl) (by kernel_rfl) (by kernel_rfl) (fun _ _ _ h => h) (Or.inl ⟨by rfl, fun W hSw => by (try dsimp only at hSw); go_simp⟩) (by assumption) ?_
        (try simp only [List.setIfInBounds_toArray, List.set_cons_zero, List.set_cons_succ])
        refine wpAnyH_ready (rs := [2, 7]) (by kernel_rfl) (by simp) ?_
        refine (AllReadyH.cons rfl (fun K hK => ?_) (AllReadyH.cons rfl (fun K hK => ?_) AllReadyH.nil))
        · go_simp
          refine (toRect4 s.a s.b s.c s.d _).mono ?_
          rintro e X3 ⟨rfl, bc⟩
          refine hK.out _ _ ⟨ck bc hHeld.1, ck bc hHeld.2.1, ck bc hHeld.2.2.1, ck bc hHeld.2.2.2.1, ck bc hHeld.2.2.2.2.1, ck bc hHeld.2.2.2.2.2.1, ck bc hHeld.2.2.2.2.2.2.1, ck bc hHeld.2.2.2.2.2.2.2⟩ (fun hHeld => ?_)
          clear hK K
          (try simp only [List.setIfInBounds_toArray, List.set_cons_zero, List.set_cons_succ])
          replace k_r := bk bc k_r
          replace k_s := bk bc k_s
          replace k_q := bk bc k_q
          replace bw := bst bc bw
          clear bc
          refine wpAnyH_ready (rs := [3, 7]) (by kernel_rfl) (by simp) ?_
          refine (AllReadyH.cons rfl (fun K hK => ?_) (AllReadyH.cons rfl (fun K hK => ?_) AllReadyH.nil))
          · go_simp
            refine (common_some ⟨a, b, c, d⟩ s t HC.out _).mono ?_
            rintro e X4 ⟨rfl, bc⟩
            refine hK.out _ _ ⟨ck bc hHeld.1, ck bc hHeld.2.1, ck bc hHeld.2.2.1, ck bc hHeld.2.2.2.1, ck bc hHeld.2.2.2.2.1, ck bc hHeld.2.2.2.2.2.1, ck bc hHeld.2.2.2.2.2.2.1, ck bc hHeld.2.2.2.2.2.2.2⟩ (fun hHeld => ?_)
            clear hK K
            (try simp only [List.setIfInBounds_toArray, List.set_cons_zero, List.set_cons_succ])
            replace k_r := bk bc k_r
            replace k_s := bk bc k_s
            replace k_q := bk bc k_q
            replace bw := bst bc bw
            clear bc
            refine takx (i := 4) (D := 28) (v := .tuple #[.agg #[.int .i64 t.a, .int .i64 t.b, .int .i64 t.c, .int .i64 t.d], .bool true]) rfl rfl (by kernel_rfl) (by kernel_rfl) (by kernel_rfl) (fun _ _ _ h => h) (Or.inl ⟨by rfl, fun W hSw => by (try dsimp only at hSw); go_simp⟩) (by assumption) ?_
            (try simp only [List.setIfInBounds_toArray, List.set_cons_zero, List.set_cons_succ])
            refine takx (i := 5) (D := 33) (v := .agg #[.int .i64 t.a, .int .i64 t.b, .int .i64 t.c, .int .i64 t.d]) rfl rfl (by kernel_rfl) (by kernel_rfl) (by kernel_rfl) (fun _ _ _ h => h) (Or.inl ⟨by rfl, fun W hSw => by (try dsimp only at hSw); go_simp⟩) (by assumption) ?_
            (try simp only [List.setIfInBounds_toArray, List.set_cons_zero, List.set_cons_succ])
            refine takx (i := 6) (D := 34) (v := .bool true) rfl rfl (by kernel_rfl) (by kernel_rfl) (by kernel_rfl) (fun _ _ _ h => h) (Or.inl ⟨by rfl, fun W hSw => by (try dsimp only at hSw); go_simp⟩) (by assumption) ?_
            (try simp only [List.setIfInBounds_toArray, List.set_cons_zero, List.set_cons_succ])
            refine wpAnyH_ready (rs := [7]) (by kernel_rfl) (by simp) ?_
            refine (AllReadyH.cons rfl (fun K hK => ?_) AllReadyH.nil)
            go_simp
            refine hK.out _ _ ⟨cka hHeld.1, cka hHeld.2.1, cka hHeld.2.2.1, cka hHeld.2.2.2.1, cka hHeld.2.2.2.2.1, cka hHeld.2.2.2.2.2.1, cka hHeld.2.2.2.2.2.2.1, cka hHeld.2.2.2.2.2.2.2⟩ (fun hHeld => ?_)
            clear hK K
            (try simp only [List.setIfInBounds_toArray, List.set_cons_zero, List.set_cons_succ])
            obtain ⟨X5, g5, eY, eg⟩ : ∃ Y g, Y = X4.alloc (.cells #[.int .i64 0, .int .i64 0, .int .i64 0, .int .i64 0] 26) ∧ g = X4.heap.size := ⟨_, _, rfl, rfl⟩
            rw [← eY, ← eg]
            rw [← eY] at hHeld
            have bc : Below X4.heap.size X4 X5 := by rw [eY]; exact (Below.refl _ _).alloc (Nat.le_refl _) _
            have k_n14 : X5.heap[g5]? = some (.cells #[.int .i64 0, .int .i64 0, .int .i64 0, .int .i64 0] 26 (0, 0)) := by rw [eY, eg]; exact heap_alloc_new X4 _
            have lo_n14 : w.heap.size ≤ g5 := by rw [eg]; exact bw.size
            have ne_r_n14 : ¬ w.heap.size = g5 := ne_new k_r eg
            have ne_s_n14 : ¬ w.heap.size + 1 = g5 := ne_new k_s eg
            have ne_q_n14 : ¬ g_q = g5 := ne_new k_q eg
            replace k_r := bk bc k_r
            replace k_s := bk bc k_s
            replace k_q := bk bc k_q
            replace bw := bst bc bw
            clear bc eY eg
            refine wpAnyH_ready (rs := [8]) (by kernel_rfl) (by simp) ?_
            refine (AllReadyH.cons rfl (fun K hK => ?_) AllReadyH.nil)
            have qq := q4c k_n14
            go_simp
            clear qq
            refine hK.out _ _ ⟨(cks ne_q_n14 (cks ne_q_n14 (cks ne_q_n14 (cks ne_q_n14 hHeld.1)))), (cks ne_q_n14 (cks ne_q_n14 (cks ne_q_n14 (cks ne_q_n14 hHeld.2.1)))), (cks ne_q_n14 (cks ne_q_n14 (cks ne_q_n14 (cks ne_q_n14 hHeld.2.2.1)))), (cks ne_q_n14 (cks ne_q_n14 (cks ne_q_n14 (cks ne_q_n14 hHeld.2.2.2.1)))), (cks ne_s_n14 (cks ne_s_n14 (cks ne_s_n14 (cks ne_s_n14 hHeld.2.2.2.2.1)))), (cks ne_s_n14 (cks ne_s_n14 (cks ne_s_n14 (cks ne_s_n14 hHeld.2.2.2.2.2.1)))), (cks ne_s_n14 (cks ne_s_n14 (cks ne_s_n14 (cks ne_s_n14 hHeld.2.2.2.2.2.2.1)))), (cks ne_s_n14 (cks ne_s_n14 (cks ne_s_n14 (cks ne_s_n14 hHeld.2.2.2.2.2.2.2))))⟩ (fun hHeld => ?_)
            clear hK K
            (try simp only [List.setIfInBounds_toArray, List.set_cons_zero, List.set_cons_succ])
            obtain ⟨X6, eY⟩ : ∃ Y, Y = ((((X5.setCell ⟨g5, 0, none⟩ (.int .i64 t.a)).setCell ⟨g5, 1, none⟩ (.int .i64 t.b)).setCell ⟨g5, 2, none⟩ (.int .i64 t.c)).setCell ⟨g5, 3, none⟩ (.int .i64 t.d)) := ⟨_, rfl⟩
            rw [← eY] at hHeld ⊢
            replace k_r : X6.heap[w.heap.size]? = some (.cells #[.int .i64 a, .int .i64 b, .int .i64 c, .int .i64 d] 23 (0, 0)) := by rw [eY]; exact (bks ne_r_n14 (bks ne_r_n14 (bks ne_r_n14 (bks ne_r_n14 k_r))))
            replace k_s : X6.heap[w.heap.size + 1]? = some (.cells #[.int .i64 s.a, .int .i64 s.b, .int .i64 s.c, .int .i64 s.d] 23 (0, 0)) := by rw [eY]; exact (bks ne_s_n14 (bks ne_s_n14 (bks ne_s_n14 (bks ne_s_n14 k_s))))
            replace k_q : X6.heap[g_q]? = some (.cells #[.int .i64 a, .int .i64 b, .int .i64 c, .int .i64 d] 26 (0, 0)) := by rw [eY]; exact (bks ne_q_n14 (bks ne_q_n14 (bks ne_q_n14 (bks ne_q_n14 k_q))))
            replace bw : Below w.heap.size w X6 := by rw [eY]; exact (bss lo_n14 (bss lo_n14 (bss lo_n14 (bss lo_n14 bw))))
            replace k_n14 : X6.heap[g5]? = some (.cells #[.int .i64 t.a, .int .i64 t.b, .int .i64 t.c, .int .i64 t.d] 26 (0, 0)) := by rw [eY]; exact q4s k_n14
            clear eY
            refine takx (i := 9) (D := 15) (v := .bool true) rfl rfl (by kernel_rfl) (by kernel_rfl) (by kernel_rfl) (fun _ _ _ h => h) (Or.inl ⟨by rfl, fun W hSw => by (try dsimp only at hSw); go_simp⟩) (by assumption) ?_
            (try simp only [List.setIfInBounds_toArray, List.set_cons_zero, List.set_cons_succ])
            refine wpAnyH_done (by kernel_rfl) ?_ _
            go_wp2_with fail
            go_meet
            exact ⟨_, rfl, rfl, k_n14, k_r, k_s, k_q, bw⟩
          · go_simp
            refine hK.out _ _ ⟨cka hHeld.1, cka hHeld.2.1, cka hHeld.2.2.1, cka hHeld.2.2.2.1, cka hHeld.2.2.2.2.1, cka hHeld.2.2.2.2.2.1, cka hHeld.2.2.2.2.2.2.1, cka hHeld.2.2.2.2.2.2.2⟩ (fun hHeld => ?_)
            clear hK K
            (try simp only [List.setIfInBounds_toArray, List.set_cons_zero, List.set_cons_succ])
            obtain ⟨X7, g7, eY, eg⟩ : ∃ Y g, Y = X3.alloc (.cells #[.int .i64 0, .int .i64 0, .int .i64 0, .int .i64 0] 26) ∧ g = X3.heap.size := ⟨_, _, rfl, rfl⟩
            rw [← eY, ← eg]
            rw [← eY] at hHeld
            have bc : Below X3.heap.size X3 X7 := by rw [eY]; exact (Below.refl _ _).alloc (Nat.le_refl _) _
            have k_n14 : X7.heap[g7]? = some (.cells #[.int .i64 0, .int .i64 0, .int .i64 0, .int .i64 0] 26 (0, 0)) := by rw [eY, eg]; exact heap_alloc_new X3 _
            have lo_n14 : w.heap.size ≤ g7 := by rw [eg]; exact bw.size
            have ne_r_n14 : ¬ w.heap.size = g7 := ne_new k_r eg
            have ne_s_n14 : ¬ w.heap.size + 1 = g7 := ne_new k_s eg
            have ne_q_n14 : ¬ g_q = g7 := ne_new k_q eg
            replace k_r := bk bc k_r
            replace k_s := bk bc k_s
            replace k_q := bk bc k_q
            replace bw := bst bc bw
            clear bc eY eg
            refine wpAnyH_ready (rs := [3]) (by kernel_rfl) (by simp) ?_
            refine (AllReadyH.cons rfl (fun K hK => ?_) AllReadyH.nil)
            go_simp
            refine (common_some ⟨a, b, c, d⟩ s t HC.out _).mono ?_
            rintro e X8 ⟨rfl, bc⟩
            refine hK.out _ _ ⟨ck bc hHeld.1, ck bc hHeld.2.1, ck bc hHeld.2.2.1, ck bc hHeld.2.2.2.1, ck bc hHeld.2.2.2.2.1, ck bc hHeld.2.2.2.2.2.1, ck bc hHeld.2.2.2.2.2.2.1, ck bc hHeld.2.2.2.2.2.2.2⟩ (fun hHeld => ?_)
            clear hK K
            (try simp only [List.setIfInBounds_toArray, List.set_cons_zero, List.set_cons_succ])
            replace k_r := bk bc k_r
            replace k_s := bk bc k_s
            replace k_q := bk bc k_q
            replace k_n14 := bk bc k_n14
            replace bw := bst bc bw
            clear bc
            refine takx (i := 4) (D := 28) (v := .tuple #[.agg #[.int .i64 t.a, .int .i64 t.b, .int .i64 t.c, .int .i64 t.d], .bool true]) rfl rfl (by kernel_rfl) (by kernel_rfl) (by kernel_rfl) (fun _ _ _ h => h) (Or.inl ⟨by rfl, fun W hSw => by (try dsimp only at hSw); go_simp⟩) (by assumption) ?_
            (try simp only [List.setIfInBounds_toArray, List.set_cons_zero, List.set_cons_succ])
            refine takx (i := 5) (D := 33) (v := .agg #[.int .i64 t.a, .int .i64 t.b, .int .i64 t.c, .int .i64 t.d]) rfl rfl (by kernel_rfl) (by kernel_rfl) (by kernel_rfl) (fun _ _ _ h => h) (Or.inl ⟨by rfl, fun W hSw => by (try dsimp only at hSw); go_simp⟩) (by assumption) ?_
            (try simp only [List.setIfInBounds_toArray, List.set_cons_zero, List.set_cons_succ])
            refine takx (i := 6) (D := 34) (v := .bool true) rfl rfl (by kernel_rfl) (by kernel_rfl) (by kernel_rfl) (fun _ _ _ h => h) (Or.inl ⟨by rfl, fun W hSw => by (try dsimp only at hSw); go_simp⟩) (by assumption) ?_
            (try simp only [List.setIfInBounds_toArray, List.set_cons_zero, List.set_cons_succ])
            refine wpAnyH_ready (rs := [8]) (by kernel_rfl) (by simp) ?_
            refine (AllReadyH.cons rfl (fun K hK => ?_) AllReadyH.nil)
            have qq := q4c k_n14
            go_simp
            clear qq
            refine hK.out _ _ ⟨(cks ne_q_n14 (cks ne_q_n14 (cks ne_q_n14 (cks ne_q_n14 hHeld.1)))), (cks ne_q_n14 (cks ne_q_n14 (cks ne_q_n14 (cks ne_q_n14 hHeld.2.1)))), (cks ne_q_n14 (cks ne_q_n14 (cks ne_q_n14 (cks ne_q_n14 hHeld.2.2.1)))), (cks ne_q_n14 (cks ne_q_n14 (cks ne_q_n14 (cks ne_q_n14 hHeld.2.2.2.1)))), (cks ne_s_n14 (cks ne_s_n14 (cks ne_s_n14 (cks ne_s_n14 hHeld.2.2.2.2.1)))), (cks ne_s_n14 (cks ne_s_n14 (cks ne_s_n14 (cks ne_s_n14 hHeld.2.2.2.2.2.1)))), (cks ne_s_n14 (cks ne_s_n14 (cks ne_s_n14 (cks ne_s_n14 hHeld.2.2.2.2.2.2.1)))), (cks ne_s_n14 (cks ne_s_n14 (cks ne_s_n14 (cks ne_s_n14 hHeld.2.2.2.2.2.2.2))))⟩ (fun hHeld => ?_)
            clear hK K
            (try simp only [List.setIfInBounds_toArray, List.set_cons_zero, List.set_cons_succ])
            obtain ⟨X9, eY⟩ : ∃ Y, Y = ((((X8.setCell ⟨g7, 0, none⟩ (.int .i64 t.a)).setCell ⟨g7, 1, none⟩ (.int .i64 t.b)).setCell ⟨g7, 2, none⟩ (.int .i64 t.c)).setCell ⟨g7, 3, none⟩ (.int .i64 t.d)) := ⟨_, rfl⟩
            rw [← eY] at hHeld ⊢
            replace k_r : X9.heap[w.heap.size]? = some (.cells #[.int .i64 a, .int .i64 b, .int .i64 c, .int .i64 d] 23 (0, 0)) := by rw [eY]; exact (bks ne_r_n14 (bks ne_r_n14 (bks ne_r_n14 (bks ne_r_n14 k_r))))
            replace k_s : X9.heap[w.heap.size + 1]? = some (.cells #[.int .i64 s.a, .int .i64 s.b, .int .i64 s.c, .int .i64 s.d] 23 (0, 0)) := by rw [eY]; exact (bks ne_s_n14 (bks ne_s_n14 (bks ne_s_n14 (bks ne_s_n14 k_s))))
            replace k_q : X9.heap[g_q]? = some (.cells #[.int .i64 a, .int .i64 b, .int .i64 c, .int .i64 d] 26 (0, 0)) := by rw [eY]; exact (bks ne_q_n14 (bks ne_q_n14 (bks ne_q_n14 (bks ne_q_n14 k_q))))
            replace bw : Below w.heap.size w X9 := by rw [eY]; exact (bss lo_n14 (bss lo_n14 (bss lo_n14 (bss lo_n14 bw))))
            replace k_n14 : X9.heap[g7]? = some (.cells #[.int .i64 t.a, .int .i64 t.b, .int .i64 t.c, .int .i64 t.d] 26 (0, 0)) := by rw [eY]; exact q4s k_n14
            clear eY
            refine takx (i := 9) (D := 15) (v := .bool true) rfl rfl (by kernel_rfl) (by kernel_rfl) (by kernel_rfl) (fun _ _ _ h => h) (Or.inl ⟨by rfl, fun W hSw => by (try dsimp only at hSw); go_simp⟩) (by assumption) ?_
            (try simp only [List.setIfInBounds_toArray, List.set_cons_zero, List.set_cons_succ])
            refine wpAnyH_done (by kernel_rfl) ?_ _
            go_wp2_with fail
            go_meet
            exact ⟨_, rfl, rfl, k_n14, k_r, k_s, k_q, bw⟩
        · go_simp
          refine hK.out _ _ ⟨cka hHeld.1, cka hHeld.2.1, cka hHeld.2.2.1, cka hHeld.2.2.2.1, cka hHeld.2.2.2.2.1, cka hHeld.2.2.2.2.2.1, cka hHeld.2.2.2.2.2.2.1, cka hHeld.2.2.2.2.2.2.2⟩ (fun hHeld => ?_)
          clear hK K
          (try simp only [List.setIfInBounds_toArray, List.set_cons_zero, List.set_cons_succ])
          obtain ⟨X10, g10, eY, eg⟩ : ∃ Y g, Y = X2.alloc (.cells #[.int .i64 0, .int .i64 0, .int .i64 0, .int .i64 0] 26) ∧ g = X2.heap.size := ⟨_, _, rfl, rfl⟩
          rw [← eY, ← eg]
          rw [← eY] at hHeld
          have bc : Below X2.heap.size X2 X10 := by rw [eY]; exact (Below.refl _ _).alloc (Nat.le_refl _) _
          have k_n14 : X10.heap[g10]? = some (.cells #[.int .i64 0, .int .i64 0, .int .i64 0, .int .i64 0] 26 (0, 0)) := by rw [eY, eg]; exact heap_alloc_new X2 _
          have lo_n14 : w.heap.size ≤ g10 := by rw [eg]; exact bw.size
          have ne_r_n14 : ¬ w.heap.size = g10 := ne_new k_r eg
          have ne_s_n14 : ¬ w.heap.size + 1 = g10 := ne_new k_s eg
          have ne_q_n14 : ¬ g_q = g10 := ne_new k_q eg
          replace k_r := bk bc k_r
          replace k_s := bk bc k_s
          replace k_q := bk bc k_q
          replace bw := bst bc bw
          clear bc eY eg
          refine wpAnyH_ready (rs := [2]) (by kernel_rfl) (by simp) ?_
          refine (AllReadyH.cons rfl (fun K hK => ?_) AllReadyH.nil)
          go_simp
          refine (toRect4 s.a s.b s.c s.d _).mono ?_
          rintro e X11 ⟨rfl, bc⟩
          refine hK.out _ _ ⟨ck bc hHeld.1, ck bc hHeld.2.1, ck bc hHeld.2.2.1, ck bc hHeld.2.2.2.1, ck bc hHeld.2.2.2.2.1, ck bc hHeld.2.2.2.2.2.1, ck bc hHeld.2.2.2.2.2.2.1, ck bc hHeld.2.2.2.2.2.2.2⟩ (fun hHeld => ?_)
          clear hK K
          (try simp only [List.setIfInBounds_toArray, List.set_cons_zero, List.set_cons_succ])
          replace k_r := bk bc k_r
          replace k_s := bk bc k_s
          replace k_q := bk bc k_q
          replace k_n14 := bk bc k_n14
          replace bw := bst bc bw
          clear bc
          refine wpAnyH_ready (rs := [3]) (by kernel_rfl) (by simp) ?_
          refine (AllReadyH.cons rfl (fun K hK => ?_) AllReadyH.nil)
          go_simp
          refine (common_some ⟨a, b, c, d⟩ s t HC.out _).mono ?_
          rintro e X12 ⟨rfl, bc⟩
          refine hK.out _ _ ⟨ck bc hHeld.1, ck bc hHeld.2.1, ck bc hHeld.2.2.1, ck bc hHeld.2.2.2.1, ck bc hHeld.2.2.2.2.1, ck bc hHeld.2.2.2.2.2.1, ck bc hHeld.2.2.2.2.2.2.1, ck bc hHeld.2.2.2.2.2.2.2⟩ (fun hHeld => ?_)
          clear hK K
          (try simp only [List.setIfInBounds_toArray, List.set_cons_zero, List.set_cons_succ])
          replace k_r := bk bc k_r
          replace k_s := bk bc k_s
          replace k_q := bk bc k_q
          replace k_n14 := bk bc k_n14
          replace bw := bst bc bw
          clear bc
          refine takx (i := 4) (D := 28) (v := .tuple #[.agg #[.int .i64 t.a, .int .i64 t.b, .int .i64 t.c, .int .i64 t.d], .bool true]) rfl rfl (by kernel_rfl) (by kernel_rfl) (by kernel_rfl) (fun _ _ _ h => h) (Or.inl ⟨by rfl, fun W hSw => by (try dsimp only at hSw); go_simp⟩) (by assumption) ?_
          (try simp only [List.setIfInBounds_toArray, List.set_cons_zero, List.set_cons_succ])
          refine takx (i := 5) (D := 33) (v := .agg #[.int .i64 t.a, .int .i64 t.b, .int .i64 t.c, .int .i64 t.d]) rfl rfl (by kernel_rfl) (by kernel_rfl) (by kernel_rfl) (fun _ _ _ h => h) (Or.inl ⟨by rfl, fun W hSw => by (try dsimp only at hSw); go_simp⟩) (by assumption) ?_
          (try simp only [List.setIfInBounds_toArray, List.set_cons_zero, List.set_cons_succ])
          refine takx (i := 6) (D := 34) (v := .bool true) rfl rfl (by kernel_rfl) (by kernel_rfl) (by kernel_rfl) (fun _ _ _ h => h) (Or.inl ⟨by rfl, fun W hSw => by (try dsimp only at hSw); go_simp⟩) (by assumption) ?_
          (try simp only [List.setIfInBounds_toArray, List.set_cons_zero, List.set_cons_succ])
          refine wpAnyH_ready (rs := [8]) (by kernel_rfl) (by simp) ?_
          refine (AllReadyH.cons rfl (fun K hK => ?_) AllReadyH.nil)
          have qq := q4c k_n14
          go_simp
          clear qq
          refine hK.out _ _ ⟨(cks ne_q_n14 (cks ne_q_n14 (cks ne_q_n14 (cks ne_q_n14 hHeld.1)))), (cks ne_q_n14 (cks ne_q_n14 (cks ne_q_n14 (cks ne_q_n14 hHeld.2.1)))), (cks ne_q_n14 (cks ne_q_n14 (cks ne_q_n14 (cks ne_q_n14 hHeld.2.2.1)))), (cks ne_q_n14 (cks ne_q_n14 (cks ne_q_n14 (cks ne_q_n14 hHeld.2.2.2.1)))), (cks ne_s_n14 (cks ne_s_n14 (cks ne_s_n14 (cks ne_s_n14 hHeld.2.2.2.2.1)))), (cks ne_s_n14 (cks ne_s_n14 (cks ne_s_n14 (cks ne_s_n14 hHeld.2.2.2.2.2.1)))), (cks ne_s_n14 (cks ne_s_n14 (cks ne_s_n14 (cks ne_s_n14 hHeld.2.2.2.2.2.2.1)))), (cks ne_s_n14 (cks ne_s_n14 (cks ne_s_n14 (cks ne_s_n14 hHeld.2.2.2.2.2.2.2))))⟩ (fun hHeld => ?_)
          clear hK K
          (try simp only [List.setIfInBounds_toArray, List.set_cons_zero, List.set_cons_succ])
          obtain ⟨X13, eY⟩ : ∃ Y, Y = ((((X12.setCell ⟨g10, 0, none⟩ (.int .i64 t.a)).setCell ⟨g10, 1, none⟩ (.int .i64 t.b)).setCell ⟨g10, 2, none⟩ (.int .i64 t.c)).setCell ⟨g10, 3, none⟩ (.int .i64 t.d)) := ⟨_, rfl⟩
          rw [← eY] at hHeld ⊢
          replace k_r : X13.heap[w.heap.size]? = some (.cells #[.int .i64 a, .int .i64 b, .int .i64 c, .int .i64 d] 23 (0, 0)) := by rw [eY]; exact (bks ne_r_n14 (bks ne_r_n14 (bks ne_r_n14 (bks ne_r_n14 k_r))))
          replace k_s : X13.heap[w.heap.size + 1]? = some (.cells #[.int .i64 s.a, .int .i64 s.b, .int .i64 s.c, .int .i64 s.d] 23 (0, 0)) := by rw [eY]; exact (bks ne_s_n14 (bks ne_s_n14 (bks ne_s_n14 (bks ne_s_n14 k_s))))
          replace k_q : X13.heap[g_q]? = some (.cells #[.int .i64 a, .int .i64 b, .int .i64 c, .int .i64 d] 26 (0, 0)) := by rw [eY]; exact (bks ne_q_n14 (bks ne_q_n14 (bks ne_q_n14 (bks ne_q_n14 k_q))))
          replace bw : Below w.heap.size w X13 := by rw [eY]; exact (bss lo_n14 (bss lo_n14 (bss lo_n14 (bss lo_n14 bw))))
          replace k_n14 : X13.heap[g10]? = some (.cells #[.int .i64 t.a, .int .i64 t.b, .int .i64 t.c, .int .i64 t.d] 26 (0, 0)) := by rw [eY]; exact q4s k_n14
          clear eY
          refine takx (i := 9) (D := 15) (v := .bool true) rfl rfl (by kernel_rfl) (by kernel_rfl) (by kernel_rfl) (fun _ _ _ h => h) (Or.inl ⟨by rfl, fun W hSw => by (try dsimp only at hSw); go_simp⟩) (by assumption) ?_
          (try simp only [List.setIfInBounds_toArray, List.set_cons_zero, List.set_cons_succ])
          refine wpAnyH_done (by kernel_rfl) ?_ _
          go_wp2_with fail
          go_meet
          exact ⟨_, rfl, rfl, k_n14, k_r, k_s, k_q, bw⟩
      case rest =>
        clear k_r k_s k_q bw
        obtain ⟨g_both, rfl, rfl, k_both, k_r, k_s, k_q, BW⟩ := hcut
        have bw := BW.out
        clear BW
        have q_r := q4c k_r
        have q_s := q4c k_s
        have q_q := q4c k_q
        have q_both := q4c k_both
        go_wp2_with fail
        refine (fine_no a b c d ha hb hc hd HF.out _).mono ?_
        rintro e Y15 ⟨rfl, bc⟩
        clear q_r q_s q_q q_both
        replace k_r := bk bc k_r
        replace k_s := bk bc k_s
        replace k_q := bk bc k_q
        replace k_both := bk bc k_both
        replace bw := bst bc bw
        clear bc
        go_wp2
        go_ret
        exact ⟨rfl, bw⟩
  obtain ⟨h3, h4, h5, h6, N, hN⟩ := fine_area hf
  have HF := Lib.hid hf
  have HN := Lib.hid hN
  clear hf hN
  cases hc0 : com ⟨a, b, c, d⟩ s with
  | none =>
    have HC := Lib.hid hc0
    clear hc0
    go_enter Try.func21, Try.ntmps21
    go_wp2_with fail
    refine (toRect4 a b c d _).mono ?_
    rintro e w1 ⟨rfl, bc⟩
    have bw := bst bc (bsa (bsa (Below.refl _ _)))
    have k_r : w1.heap[w.heap.size]? = some (.cells #[.int .i64 a, .int .i64 b, .int .i64 c, .int .i64 d] 23 (0, 0)) := by have := bk bc (bka (heap_alloc_new w _)); simpa using this
    have k_s : w1.heap[w.heap.size + 1]? = some (.cells #[.int .i64 s.a, .int .i64 s.b, .int .i64 s.c, .int .i64 s.d] 23 (0, 0)) := by have := bk bc (heap_alloc_new (w.alloc (.cells #[.int .i64 a, .int .i64 b, .int .i64 c, .int .i64 d] 23)) _); simpa using this
    clear bc
    go_upto_region 2 with fail
    obtain ⟨Y1, g_q, eY, eg⟩ : ∃ Y g, Y = w1.alloc (.cells #[.int .i64 a, .int .i64 b, .int .i64 c, .int .i64 d] 26) ∧ g = w1.heap.size := ⟨_, _, rfl, rfl⟩
    rw [← eY, ← eg]
    have bc : Below w1.heap.size w1 Y1 := by rw [eY]; exact (Below.refl _ _).alloc (Nat.le_refl _) _
    have k_q : Y1.heap[g_q]? = some (.cells #[.int .i64 a, .int .i64 b, .int .i64 c, .int .i64 d] 26 (0, 0)) := by rw [eY, eg]; exact heap_alloc_new w1 _
    replace k_r := bk bc k_r
    replace k_s := bk bc k_s
    replace bw := bst bc bw
    clear bc eY eg
    go_cut [14, 15] (fun s14 s15 wx => ∃ (g_both : Nat), s14 = .pointer (some ⟨g_both, 0, none⟩) ∧ s15 = .bool false ∧ wx.heap[g_both]? = some (.cells #[.int .i64 0, .int .i64 0, .int .i64 0, .int .i64 0] 26 (0, 0)) ∧ wx.heap[w.heap.size]? = some (.cells #[.int .i64 a, .int .i64 b, .int .i64 c, .int .i64 d] 23 (0, 0)) ∧ wx.heap[w.heap.size + 1]? = some (.cells #[.int .i64 s.a, .int .i64 s.b, .int .i64 s.c, .int .i64 s.d] 23 (0, 0)) ∧ wx.heap[g_q]? = some (.cells #[.int .i64 a, .int .i64 b, .int .i64 c, .int .i64 d] 26 (0, 0)) ∧ Hid (Below w.heap.size w wx))
    case first =>
      refine wp_region_held_drew (S := fun w' => w'.cell? ⟨g_q, 0, none⟩ = some (.int .i64 a) ∧ w'.cell? ⟨g_q, 1, none⟩ = some (.int .i64 b) ∧ w'.cell? ⟨g_q, 2, none⟩ = some (.int .i64 c) ∧ w'.cell? ⟨g_q, 3, none⟩ = some (.int .i64 d) ∧ w'.cell? ⟨w.heap.size + 1, 0, none⟩ = some (.int .i64 s.a) ∧ w'.cell? ⟨w.heap.size + 1, 1, none⟩ = some (.int .i64 s.b) ∧ w'.cell? ⟨w.heap.size + 1, 2, none⟩ = some (.int .i64 s.c) ∧ w'.cell? ⟨w.heap.size + 1, 3, none⟩ = some (.int .i64 s.d)) (by kernel_rfl) ⟨(q4c k_q).1.1, (q4c k_q).1.2.1, (q4c k_q).1.2.2.1, (q4c k_q).1.2.2.2, (q4c k_s).1.1, (q4c k_s).1.2.1, (q4c k_s).1.2.2.1, (q4c k_s).1.2.2.2⟩ ?_
      intro hHeld
      obtain ⟨X2, eX, bc⟩ : ∃ X, X = Y1.drew ∧ Below Y1.heap.size Y1 X := ⟨_, rfl, (Below.refl _ _).drew⟩
      rw [← eX] at hHeld ⊢
      replace k_r := bk bc k_r
      replace k_s := bk bc k_s
      replace k_q := bk bc k_q
      replace bw := bst bc bw
      clear eX bc
      refine takx (i := 0) (D := 29) (v := .agg #[.int .i64 a, .int .i64 b, .int .i64 c, .int .i64 d]) rfl rfl (by kernel_rfl) (by kernel_rfl) (by kernel_rfl) (fun _ _ _ h => h) (Or.inl ⟨by rfl, fun W hSw => by (try dsimp only at hSw); go_simp⟩) (by assumption) ?_
      (try simp only [List.setIfInBounds_toArray, List.set_cons_zero, List.set_cons_succ])
      refine takx (i := 1) (D := 30) (v := .agg #[.int .i64 s.a, .int .i64 s.b, .int .i64 s.c, .int .i64 s.d]) rfl rfl (by kernel_rfl) (by kernel_rfl) (by kernel_rfl) (fun _ _ _ h => h) (Or.inl ⟨by rfl, fun W hSw => by (try dsimp only at hSw); go_simp⟩) (by assumption) ?_
      (try simp only [List.setIfInBounds_toArray, List.set_cons_zero, List.set_cons_succ])
      refine wpAnyH_ready (rs := [2, 7]) (by kernel_rfl) (by simp) ?_
      refine (AllReadyH.cons rfl (fun K hK => ?_) (AllReadyH.cons rfl (fun K hK => ?_) AllReadyH.nil))
      · go_simp
        refine (toRect4 s.a s.b s.c s.d _).mono ?_
        rintro e X3 ⟨rfl, bc⟩
        refine hK.out _ _ ⟨ck bc hHeld.1, ck bc hHeld.2.1, ck bc hHeld.2.2.1, ck bc hHeld.2.2.2.1, ck bc hHeld.2.2.2.2.1, ck bc hHeld.2.2.2.2.2.1, ck bc hHeld.2.2.2.2.2.2.1, ck bc hHeld.2.2.2.2.2.2.2⟩ (fun hHeld => ?_)
        clear hK K
        (try simp only [List.setIfInBounds_toArray, List.set_cons_zero, List.set_cons_succ])
        replace k_r := bk bc k_r
        replace k_s := bk bc k_s
        replace k_q := bk bc k_q
        replace bw := bst bc bw
        clear bc
        refine wpAnyH_ready (rs := [3, 7]) (by kernel_rfl) (by simp) ?_
        refine (AllReadyH.cons rfl (fun K hK => ?_) (AllReadyH.cons rfl (fun K hK => ?_) AllReadyH.nil))
        · go_simp
          refine (common_none ⟨a, b, c, d⟩ s HC.out _).mono ?_
          rintro e X4 ⟨rfl, bc⟩
          refine hK.out _ _ ⟨ck bc hHeld.1, ck bc hHeld.2.1, ck bc hHeld.2.2.1, ck bc hHeld.2.2.2.1, ck bc hHeld.2.2.2.2.1, ck bc hHeld.2.2.2.2.2.1, ck bc hHeld.2.2.2.2.2.2.1, ck bc hHeld.2.2.2.2.2.2.2⟩ (fun hHeld => ?_)
          clear hK K
          (try simp only [List.setIfInBounds_toArray, List.set_cons_zero, List.set_cons_succ])
          replace k_r := bk bc k_r
          replace k_s := bk bc k_s
          replace k_q := bk bc k_q
          replace bw := bst bc bw
          clear bc
          refine takx (i := 4) (D := 28) (v := .tuple #[.agg #[.int .i64 0, .int .i64 0, .int .i64 0, .int .i64 0], .bool false]) rfl rfl (by kernel_rfl) (by kernel_rfl) (by kernel_rfl) (fun _ _ _ h => h) (Or.inl ⟨by rfl, fun W hSw => by (try dsimp only at hSw); go_simp⟩) (by assumption) ?_
          (try simp only [List.setIfInBounds_toArray, List.set_cons_zero, List.set_cons_succ])
          refine takx (i := 5) (D := 33) (v := .agg #[.int .i64 0, .int .i64 0, .int .i64 0, .int .i64 0]) rfl rfl (by kernel_rfl) (by kernel_rfl) (by kernel_rfl) (fun _ _ _ h => h) (Or.inl ⟨by rfl, fun W hSw => by (try dsimp only at hSw); go_simp⟩) (by assumption) ?_
          (try simp only [List.setIfInBounds_toArray, List.set_cons_zero, List.set_cons_succ])
          refine takx (i := 6) (D := 34) (v := .bool false) rfl rfl (by kernel_rfl) (by kernel_rfl) (by kernel_rfl) (fun _ _ _ h => h) (Or.inl ⟨by rfl, fun W hSw => by (try dsimp only at hSw); go_simp⟩) (by assumption) ?_
          (try simp only [List.setIfInBounds_toArray, List.set_cons_zero, List.set_cons_succ])
          refine wpAnyH_ready (rs := [7]) (by kernel_rfl) (by simp) ?_
          refine (AllReadyH.cons rfl (fun K hK => ?_) AllReadyH.nil)
          go_simp
          refine hK.out _ _ ⟨cka hHeld.1, cka hHeld.2.1, cka hHeld.2.2.1, cka hHeld.2.2.2.1, cka hHeld.2.2.2.2.1, cka hHeld.2.2.2.2.2.1, cka hHeld.2.2.2.2.2.2.1, cka hHeld.2.2.2.2.2.2.2⟩ (fun hHeld => ?_)
          clear hK K
          (try simp only [List.setIfInBounds_toArray, List.set_cons_zero, List.set_cons_succ])
          obtain ⟨X5, g5, eY, eg⟩ : ∃ Y g, Y = X4.alloc (.cells #[.int .i64 0, .int .i64 0, .int .i64 0, .int .i64 0] 26) ∧ g = X4.heap.size := ⟨_, _, rfl, rfl⟩
          rw [← eY, ← eg]
          rw [← eY] at hHeld
          have bc : Below X4.heap.size X4 X5 := by rw [eY]; exact (Below.refl _ _).alloc (Nat.le_refl _) _
          have k_n14 : X5.heap[g5]? = some (.cells #[.int .i64 0, .int .i64 0, .int .i64 0, .int .i64 0] 26 (0, 0)) := by rw [eY, eg]; exact heap_alloc_new X4 _
          have lo_n14 : w.heap.size ≤ g5 := by rw [eg]; exact bw.size
          have ne_r_n14 : ¬ w.heap.size = g5 := ne_new k_r eg
          have ne_s_n14 : ¬ w.heap.size + 1 = g5 := ne_new k_s eg
          have ne_q_n14 : ¬ g_q = g5 := ne_new k_q eg
          replace k_r := bk bc k_r
          replace k_s := bk bc k_s
          replace k_q := bk bc k_q
          replace bw := bst bc bw
          clear bc eY eg
          refine wpAnyH_ready (rs := [8]) (by kernel_rfl) (by simp) ?_
          refine (AllReadyH.cons rfl (fun K hK => ?_) AllReadyH.nil)
          have qq := q4c k_n14
          go_simp
          clear qq
          refine hK.out _ _ ⟨(cks ne_q_n14 (cks ne_q_n14 (cks ne_q_n14 (cks ne_q_n14 hHeld.1)))), (cks ne_q_n14 (cks ne_q_n14 (cks ne_q_n14 (cks ne_q_n14 hHeld.2.1)))), (cks ne_q_n14 (cks ne_q_n14 (cks ne_q_n14 (cks ne_q_n14 hHeld.2.2.1)))), (cks ne_q_n14 (cks ne_q_n14 (cks ne_q_n14 (cks ne_q_n14 hHeld.2.2.2.1)))), (cks ne_s_n14 (cks ne_s_n14 (cks ne_s_n14 (cks ne_s_n14 hHeld.2.2.2.2.1)))), (cks ne_s_n14 (cks ne_s_n14 (cks ne_s_n14 (cks ne_s_n14 hHeld.2.2.2.2.2.1)))), (cks ne_s_n14 (cks ne_s_n14 (cks ne_s_n14 (cks ne_s_n14 hHeld.2.2.2.2.2.2.1)))), (cks ne_s_n14 (cks ne_s_n14 (cks ne_s_n14 (cks ne_s_n14 hHeld.2.2.2.2.2.2.2))))⟩ (fun hHeld => ?_)
          clear hK K
          (try simp only [List.setIfInBounds_toArray, List.set_cons_zero, List.set_cons_succ])
          obtain ⟨X6, eY⟩ : ∃ Y, Y = ((((X5.setCell ⟨g5, 0, none⟩ (.int .i64 0)).setCell ⟨g5, 1, none⟩ (.int .i64 0)).setCell ⟨g5, 2, none⟩ (.int .i64 0)).setCell ⟨g5, 3, none⟩ (.int .i64 0)) := ⟨_, rfl⟩
          rw [← eY] at hHeld ⊢
          replace k_r : X6.heap[w.heap.size]? = some (.cells #[.int .i64 a, .int .i64 b, .int .i64 c, .int .i64 d] 23 (0, 0)) := by rw [eY]; exact (bks ne_r_n14 (bks ne_r_n14 (bks ne_r_n14 (bks ne_r_n14 k_r))))
          replace k_s : X6.heap[w.heap.size + 1]? = some (.cells #[.int .i64 s.a, .int .i64 s.b, .int .i64 s.c, .int .i64 s.d] 23 (0, 0)) := by rw [eY]; exact (bks ne_s_n14 (bks ne_s_n14 (bks ne_s_n14 (bks ne_s_n14 k_s))))
          replace k_q : X6.heap[g_q]? = some (.cells #[.int .i64 a, .int .i64 b, .int .i64 c, .int .i64 d] 26 (0, 0)) := by rw [eY]; exact (bks ne_q_n14 (bks ne_q_n14 (bks ne_q_n14 (bks ne_q_n14 k_q))))
          replace bw : Below w.heap.size w X6 := by rw [eY]; exact (bss lo_n14 (bss lo_n14 (bss lo_n14 (bss lo_n14 bw))))
          replace k_n14 : X6.heap[g5]? = some (.cells #[.int .i64 0, .int .i64 0, .int .i64 0, .int .i64 0] 26 (0, 0)) := by rw [eY]; exact q4s k_n14
          clear eY
          refine takx (i := 9) (D := 15) (v := .bool false) rfl rfl (by kernel_rfl) (by kernel_rfl) (by kernel_rfl) (fun _ _ _ h => h) (Or.inl ⟨by rfl, fun W hSw => by (try dsimp only at hSw); go_simp⟩) (by assumption) ?_
          (try simp only [List.setIfInBounds_toArray, List.set_cons_zero, List.set_cons_succ])
          refine wpAnyH_done (by kernel_rfl) ?_ _
          go_wp2_with fail
          go_meet
          exact ⟨_, rfl, rfl, k_n14, k_r, k_s, k_q, bw⟩
        · go_simp
          refine hK.out _ _ ⟨cka hHeld.1, cka hHeld.2.1, cka hHeld.2.2.1, cka hHeld.2.2.2.1, cka hHeld.2.2.2.2.1, cka hHeld.2.2.2.2.2.1, cka hHeld.2.2.2.2.2.2.1, cka hHeld.2.2.2.2.2.2.2⟩ (fun hHeld => ?_)
          clear hK K
          (try simp only [List.setIfInBounds_toArray, List.set_cons_zero, List.set_cons_succ])
          obtain ⟨X7, g7, eY, eg⟩ : ∃ Y g, Y = X3.alloc (.cells #[.int .i64 0, .int .i64 0, .int .i64 0, .int .i64 0] 26) ∧ g = X3.heap.size := ⟨_, _, rfl, rfl⟩
          rw [← eY, ← eg]
          rw [← eY] at hHeld
          have bc : Below X3.heap.size X3 X7 := by rw [eY]; exact (Below.refl _ _).alloc (Nat.le_refl _) _
          have k_n14 : X7.heap[g7]? = some (.cells #[.int .i64 0, .int .i64 0, .int .i64 0, .int .i64 0] 26 (0, 0)) := by rw [eY, eg]; exact heap_alloc_new X3 _
          have lo_n14 : w.heap.size ≤ g7 := by rw [eg]; exact bw.size
          have ne_r_n14 : ¬ w.heap.size = g7 := ne_new k_r eg
          have ne_s_n14 : ¬ w.heap.size + 1 = g7 := ne_new k_s eg
          have ne_q_n14 : ¬ g_q = g7 := ne_new k_q eg
          replace k_r := bk bc k_r
          replace k_s := bk bc k_s
          replace k_q := bk bc k_q
          replace bw := bst bc bw
          clear bc eY eg
          refine wpAnyH_ready (rs := [3]) (by kernel_rfl) (by simp) ?_
          refine (AllReadyH.cons rfl (fun K hK => ?_) AllReadyH.nil)
          go_simp
          refine (common_none ⟨a, b, c, d⟩ s HC.out _).mono ?_
          rintro e X8 ⟨rfl, bc⟩
          refine hK.out _ _ ⟨ck bc hHeld.1, ck bc hHeld.2.1, ck bc hHeld.2.2.1, ck bc hHeld.2.2.2.1, ck bc hHeld.2.2.2.2.1, ck bc hHeld.2.2.2.2.2.1, ck bc hHeld.2.2.2.2.2.2.1, ck bc hHeld.2.2.2.2.2.2.2⟩ (fun hHeld => ?_)
          clear hK K
          (try simp only [List.setIfInBounds_toArray, List.set_cons_zero, List.set_cons_succ])
          replace k_r := bk bc k_r
          replace k_s := bk bc k_s
          replace k_q := bk bc k_q
          replace k_n14 := bk bc k_n14
          replace bw := bst bc bw
          clear bc
          refine takx (i := 4) (D := 28) (v := .tuple #[.agg #[.int .i64 0, .int .i64 0, .int .i64 0, .int .i64 0], .bool false]) rfl rfl (by kernel_rfl) (by kernel_rfl) (by kernel_rfl) (fun _ _ _ h => h) (Or.inl ⟨by rfl, fun W hSw => by (try dsimp only at hSw); go_simp⟩) (by assumption) ?_
          (try simp only [List.setIfInBounds_toArray, List.set_cons_zero, List.set_cons_succ])
          refine takx (i := 5) (D := 33) (v := .agg #[.int .i64 0, .int .i64 0, .int .i64 0, .int .i64 0]) rfl rfl (by kernel_rfl) (by kernel_rfl) (by kernel_rfl) (fun _ _ _ h => h) (Or.inl ⟨by rfl, fun W hSw => by (try dsimp only at hSw); go_simp⟩) (by assumption) ?_
          (try simp only [List.setIfInBounds_toArray, List.set_cons_zero, List.set_cons_succ])
          refine takx (i := 6) (D := 34) (v := .bool false) rfl rfl (by kernel_rfl) (by kernel_rfl) (by kernel_rfl) (fun _ _ _ h => h) (Or.inl ⟨by rfl, fun W hSw => by (try dsimp only at hSw); go_simp⟩) (by assumption) ?_
          (try simp only [List.setIfInBounds_toArray, List.set_cons_zero, List.set_cons_succ])
          refine wpAnyH_ready (rs := [8]) (by kernel_rfl) (by simp) ?_
          refine (AllReadyH.cons rfl (fun K hK => ?_) AllReadyH.nil)
          have qq := q4c k_n14
          go_simp
          clear qq
          refine hK.out _ _ ⟨(cks ne_q_n14 (cks ne_q_n14 (cks ne_q_n14 (cks ne_q_n14 hHeld.1)))), (cks ne_q_n14 (cks ne_q_n14 (cks ne_q_n14 (cks ne_q_n14 hHeld.2.1)))), (cks ne_q_n14 (cks ne_q_n14 (cks ne_q_n14 (cks ne_q_n14 hHeld.2.2.1)))), (cks ne_q_n14 (cks ne_q_n14 (cks ne_q_n14 (cks ne_q_n14 hHeld.2.2.2.1)))), (cks ne_s_n14 (cks ne_s_n14 (cks ne_s_n14 (cks ne_s_n14 hHeld.2.2.2.2.1)))), (cks ne_s_n14 (cks ne_s_n14 (cks ne_s_n14 (cks ne_s_n14 hHeld.2.2.2.2.2.1)))), (cks ne_s_n14 (cks ne_s_n14 (cks ne_s_n14 (cks ne_s_n14 hHeld.2.2.2.2.2.2.1)))), (cks ne_s_n14 (cks ne_s_n14 (cks ne_s_n14 (cks ne_s_n14 hHeld.2.2.2.2.2.2.2))))⟩ (fun hHeld => ?_)
          clear hK K
          (try simp only [List.setIfInBounds_toArray, List.set_cons_zero, List.set_cons_succ])
          obtain ⟨X9, eY⟩ : ∃ Y, Y = ((((X8.setCell ⟨g7, 0, none⟩ (.int .i64 0)).setCell ⟨g7, 1, none⟩ (.int .i64 0)).setCell ⟨g7, 2, none⟩ (.int .i64 0)).setCell ⟨g7, 3, none⟩ (.int .i64 0)) := ⟨_, rfl⟩
          rw [← eY] at hHeld ⊢
          replace k_r : X9.heap[w.heap.size]? = some (.cells #[.int .i64 a, .int .i64 b, .int .i64 c, .int .i64 d] 23 (0, 0)) := by rw [eY]; exact (bks ne_r_n14 (bks ne_r_n14 (bks ne_r_n14 (bks ne_r_n14 k_r))))
          replace k_s : X9.heap[w.heap.size + 1]? = some (.cells #[.int .i64 s.a, .int .i64 s.b, .int .i64 s.c, .int .i64 s.d] 23 (0, 0)) := by rw [eY]; exact (bks ne_s_n14 (bks ne_s_n14 (bks ne_s_n14 (bks ne_s_n14 k_s))))
          replace k_q : X9.heap[g_q]? = some (.cells #[.int .i64 a, .int .i64 b, .int .i64 c, .int .i64 d] 26 (0, 0)) := by rw [eY]; exact (bks ne_q_n14 (bks ne_q_n14 (bks ne_q_n14 (bks ne_q_n14 k_q))))
          replace bw : Below w.heap.size w X9 := by rw [eY]; exact (bss lo_n14 (bss lo_n14 (bss lo_n14 (bss lo_n14 bw))))
          replace k_n14 : X9.heap[g7]? = some (.cells #[.int .i64 0, .int .i64 0, .int .i64 0, .int .i64 0] 26 (0, 0)) := by rw [eY]; exact q4s k_n14
          clear eY
          refine takx (i := 9) (D := 15) (v := .bool false) rfl rfl (by kernel_rfl) (by kernel_rfl) (by kernel_rfl) (fun _ _ _ h => h) (Or.inl ⟨by rfl, fun W hSw => by (try dsimp only at hSw); go_simp⟩) (by assumption) ?_
          (try simp only [List.setIfInBounds_toArray, List.set_cons_zero, List.set_cons_succ])
          refine wpAnyH_done (by kernel_rfl) ?_ _
          go_wp2_with fail
          go_meet
          exact ⟨_, rfl, rfl, k_n14, k_r, k_s, k_q, bw⟩
      · go_simp
        refine hK.out _ _ ⟨cka hHeld.1, cka hHeld.2.1, cka hHeld.2.2.1, cka hHeld.2.2.2.1, cka hHeld.2.2.2.2.1, cka hHeld.2.2.2.2.2.1, cka hHeld.2.2.2.2.2.2.1, cka hHeld.2.2.2.2.2.2.2⟩ (fun hHeld => ?_)
        clear hK K
        (try simp only [List.setIfInBounds_toArray, List.set_cons_zero, List.set_cons_succ])
        obtain ⟨X10, g10, eY, eg⟩ : ∃ Y g, Y = X2.alloc (.cells #[.int .i64 0, .int .i64 0, .int .i64 0, .int .i64 0] 26) ∧ g = X2.heap.size := ⟨_, _, rfl, rfl⟩
        rw [← eY, ← eg]
        rw [← eY] at hHeld
        have bc : Below X2.heap.size X2 X10 := by rw [eY]; exact (Below.refl _ _).alloc (Nat.le_refl _) _
        have k_n14 : X10.heap[g10]? = some (.cells #[.int .i64 0, .int .i64 0, .int .i64 0, .int .i64 0] 26 (0, 0)) := by rw [eY, eg]; exact heap_alloc_new X2 _
        have lo_n14 : w.heap.size ≤ g10 := by rw [eg]; exact bw.size
        have ne_r_n14 : ¬ w.heap.size = g10 := ne_new k_r eg
        have ne_s_n14 : ¬ w.heap.size + 1 = g10 := ne_new k_s eg
        have ne_q_n14 : ¬ g_q = g10 := ne_new k_q eg
        replace k_r := bk bc k_r
        replace k_s := bk bc k_s
        replace k_q := bk bc k_q
        replace bw := bst bc bw
        clear bc eY eg
        refine wpAnyH_ready (rs := [2]) (by kernel_rfl) (by simp) ?_
        refine (AllReadyH.cons rfl (fun K hK => ?_) AllReadyH.nil)
        go_simp
        refine (toRect4 s.a s.b s.c s.d _).mono ?_
        rintro e X11 ⟨rfl, bc⟩
        refine hK.out _ _ ⟨ck bc hHeld.1, ck bc hHeld.2.1, ck bc hHeld.2.2.1, ck bc hHeld.2.2.2.1, ck bc hHeld.2.2.2.2.1, ck bc hHeld.2.2.2.2.2.1, ck bc hHeld.2.2.2.2.2.2.1, ck bc hHeld.2.2.2.2.2.2.2⟩ (fun hHeld => ?_)
        clear hK K
        (try simp only [List.setIfInBounds_toArray, List.set_cons_zero, List.set_cons_succ])
        replace k_r := bk bc k_r
        replace k_s := bk bc k_s
        replace k_q := bk bc k_q
        replace k_n14 := bk bc k_n14
        replace bw := bst bc bw
        clear bc
        refine wpAnyH_ready (rs := [3]) (by kernel_rfl) (by simp) ?_
        refine (AllReadyH.cons rfl (fun K hK => ?_) AllReadyH.nil)
        go_simp
        refine (common_none ⟨a, b, c, d⟩ s HC.out _).mono ?_
        rintro e X12 ⟨rfl, bc⟩
        refine hK.out _ _ ⟨ck bc hHeld.1, ck bc hHeld.2.1, ck bc hHeld.2.2.1, ck bc hHeld.2.2.2.1, ck bc hHeld.2.2.2.2.1, ck bc hHeld.2.2.2.2.2.1, ck bc hHeld.2.2.2.2.2.2.1, ck bc hHeld.2.2.2.2.2.2.2⟩ (fun hHeld => ?_)
        clear hK K
        (try simp only [List.setIfInBounds_toArray, List.set_cons_zero, List.set_cons_succ])
        replace k_r := bk bc k_r
        replace k_s := bk bc k_s
        replace k_q := bk bc k_q
        replace k_n14 := bk bc k_n14
        replace bw := bst bc bw
        clear bc
        refine takx (i := 4) (D := 28) (v := .tuple #[.agg #[.int .i64 0, .int .i64 0, .int .i64 0, .int .i64 0], .bool false]) rfl rfl (by kernel_rfl) (by kernel_rfl) (by kernel_rfl) (fun _ _ _ h => h) (Or.inl ⟨by rfl, fun W hSw => by (try dsimp only at hSw); go_simp⟩) (by assumption) ?_
        (try simp only [List.setIfInBounds_toArray, List.set_cons_zero, List.set_cons_succ])
        refine takx (i := 5) (D := 33) (v := .agg #[.int .i64 0, .int .i64 0, .int .i64 0, .int .i64 0]) rfl rfl (by kernel_rfl) (by kernel_rfl) (by kernel_rfl) (fun _ _ _ h => h) (Or.inl ⟨by rfl, fun W hSw => by (try dsimp only at hSw); go_simp⟩) (by assumption) ?_
        (try simp only [List.setIfInBounds_toArray, List.set_cons_zero, List.set_cons_succ])
        refine takx (i := 6) (D := 34) (v := .bool false) rfl rfl (by kernel_rfl) (by kernel_rfl) (by kernel_rfl) (fun _ _ _ h => h) (Or.inl ⟨by rfl, fun W hSw => by (try dsimp only at hSw); go_simp⟩) (by assumption) ?_
        (try simp only [List.setIfInBounds_toArray, List.set_cons_zero, List.set_cons_succ])
        refine wpAnyH_ready (rs := [8]) (by kernel_rfl) (by simp) ?_
        refine (AllReadyH.cons rfl (fun K hK => ?_) AllReadyH.nil)
        have qq := q4c k_n14
        go_simp
        clear qq
        refine hK.out _ _ ⟨(cks ne_q_n14 (cks ne_q_n14 (cks ne_q_n14 (cks ne_q_n14 hHeld.1)))), (cks ne_q_n14 (cks ne_q_n14 (cks ne_q_n14 (cks ne_q_n14 hHeld.2.1)))), (cks ne_q_n14 (cks ne_q_n14 (cks ne_q_n14 (cks ne_q_n14 hHeld.2.2.1)))), (cks ne_q_n14 (cks ne_q_n14 (cks ne_q_n14 (cks ne_q_n14 hHeld.2.2.2.1)))), (cks ne_s_n14 (cks ne_s_n14 (cks ne_s_n14 (cks ne_s_n14 hHeld.2.2.2.2.1)))), (cks ne_s_n14 (cks ne_s_n14 (cks ne_s_n14 (cks ne_s_n14 hHeld.2.2.2.2.2.1)))), (cks ne_s_n14 (cks ne_s_n14 (cks ne_s_n14 (cks ne_s_n14 hHeld.2.2.2.2.2.2.1)))), (cks ne_s_n14 (cks ne_s_n14 (cks ne_s_n14 (cks ne_s_n14 hHeld.2.2.2.2.2.2.2))))⟩ (fun hHeld => ?_)
        clear hK K
        (try simp only [List.setIfInBounds_toArray, List.set_cons_zero, List.set_cons_succ])
        obtain ⟨X13, eY⟩ : ∃ Y, Y = ((((X12.setCell ⟨g10, 0, none⟩ (.int .i64 0)).setCell ⟨g10, 1, none⟩ (.int .i64 0)).setCell ⟨g10, 2, none⟩ (.int .i64 0)).setCell ⟨g10, 3, none⟩ (.int .i64 0)) := ⟨_, rfl⟩
        rw [← eY] at hHeld ⊢
        replace k_r : X13.heap[w.heap.size]? = some (.cells #[.int .i64 a, .int .i64 b, .int .i64 c, .int .i64 d] 23 (0, 0)) := by rw [eY]; exact (bks ne_r_n14 (bks ne_r_n14 (bks ne_r_n14 (bks ne_r_n14 k_r))))
        replace k_s : X13.heap[w.heap.size + 1]? = some (.cells #[.int .i64 s.a, .int .i64 s.b, .int .i64 s.c, .int .i64 s.d] 23 (0, 0)) := by rw [eY]; exact (bks ne_s_n14 (bks ne_s_n14 (bks ne_s_n14 (bks ne_s_n14 k_s))))
        replace k_q : X13.heap[g_q]? = some (.cells #[.int .i64 a, .int .i64 b, .int .i64 c, .int .i64 d] 26 (0, 0)) := by rw [eY]; exact (bks ne_q_n14 (bks ne_q_n14 (bks ne_q_n14 (bks ne_q_n14 k_q))))
        replace bw : Below w.heap.size w X13 := by rw [eY]; exact (bss lo_n14 (bss lo_n14 (bss lo_n14 (bss lo_n14 bw))))
        replace k_n14 : X13.heap[g10]? = some (.cells #[.int .i64 0, .int .i64 0, .int .i64 0, .int .i64 0] 26 (0, 0)) := by rw [eY]; exact q4s k_n14
        clear eY
        refine takx (i := 9) (D := 15) (v := .bool false) rfl rfl (by kernel_rfl) (by kernel_rfl) (by kernel_rfl) (fun _ _ _ h => h) (Or.inl ⟨by rfl, fun W hSw => by (try dsimp only at hSw); go_simp⟩) (by assumption) ?_
        (try simp only [List.setIfInBounds_toArray, List.set_cons_zero, List.set_cons_succ])
        refine wpAnyH_done (by kernel_rfl) ?_ _
        go_wp2_with fail
        go_meet
        exact ⟨_, rfl, rfl, k_n14, k_r, k_s, k_q, bw⟩
    case rest =>
      clear k_r k_s k_q bw
      obtain ⟨g_both, rfl, rfl, k_both, k_r, k_s, k_q, BW⟩ := hcut
      have bw := BW.out
      clear BW
      have q_r := q4c k_r
      have q_s := q4c k_s
      have q_q := q4c k_q
      have q_both := q4c k_both
      go_wp2_with fail
      refine (fine_yes a b c d HF.out _).mono ?_
      rintro e Y15 ⟨rfl, bc⟩
      clear q_r q_s q_q q_both
      replace k_r := bk bc k_r
      replace k_s := bk bc k_s
      replace k_q := bk bc k_q
      replace k_both := bk bc k_both
      replace bw := bst bc bw
      clear bc
      go_wp2
      go_ret
      exact ⟨rfl, bw⟩
  | some t =>
    have HC := Lib.hid hc0
    clear hc0
    by_cases hin : In t.a t.b t.c t.d x y
    case neg =>
      have HI := Lib.hid hin
      clear hin
      go_enter Try.func21, Try.ntmps21
      go_wp2_with fail
      refine (toRect4 a b c d _).mono ?_
      rintro e w1 ⟨rfl, bc⟩
      have bw := bst bc (bsa (bsa (Below.refl _ _)))
      have k_r : w1.heap[w.heap.size]? = some (.cells #[.int .i64 a, .int .i64 b, .int .i64 c, .int .i64 d] 23 (0, 0)) := by have := bk bc (bka (heap_alloc_new w _)); simpa using this
      have k_s : w1.heap[w.heap.size + 1]? = some (.cells #[.int .i64 s.a, .int .i64 s.b, .int .i64 s.c, .int .i64 s.d] 23 (0, 0)) := by have := bk bc (heap_alloc_new (w.alloc (.cells #[.int .i64 a, .int .i64 b, .int .i64 c, .int .i64 d] 23)) _); simpa using this
      clear bc
      go_upto_region 2 with fail
      obtain ⟨Y1, g_q, eY, eg⟩ : ∃ Y g, Y = w1.alloc (.cells #[.int .i64 a, .int .i64 b, .int .i64 c, .int .i64 d] 26) ∧ g = w1.heap.size := ⟨_, _, rfl, rfl⟩
      rw [← eY, ← eg]
      have bc : Below w1.heap.size w1 Y1 := by rw [eY]; exact (Below.refl _ _).alloc (Nat.le_refl _) _
      have k_q : Y1.heap[g_q]? = some (.cells #[.int .i64 a, .int .i64 b, .int .i64 c, .int .i64 d] 26 (0, 0)) := by rw [eY, eg]; exact heap_alloc_new w1 _
      replace k_r := bk bc k_r
      replace k_s := bk bc k_s
      replace bw := bst bc bw
      clear bc eY eg
      go_cut [14, 15] (fun s14 s15 wx => ∃ (g_both : Nat), s14 = .pointer (some ⟨g_both, 0, none⟩) ∧ s15 = .bool true ∧ wx.heap[g_both]? = some (.cells #[.int .i64 t.a, .int .i64 t.b, .int .i64 t.c, .int .i64 t.d] 26 (0, 0)) ∧ wx.heap[w.heap.size]? = some (.cells #[.int .i64 a, .int .i64 b, .int .i64 c, .int .i64 d] 23 (0, 0)) ∧ wx.heap[w.heap.size + 1]? = some (.cells #[.int .i64 s.a, .int .i64 s.b, .int .i64 s.c, .int .i64 s.d] 23 (0, 0)) ∧ wx.heap[g_q]? = some (.cells #[.int .i64 a, .int .i64 b, .int .i64 c, .int .i64 d] 26 (0, 0)) ∧ Hid (Below w.heap.size w wx))
      case first =>
        refine wp_region_held_drew (S := fun w' => w'.cell? ⟨g_q, 0, none⟩ = some (.int .i64 a) ∧ w'.cell? ⟨g_q, 1, none⟩ = some (.int .i64 b) ∧ w'.cell? ⟨g_q, 2, none⟩ = some (.int .i64 c) ∧ w'.cell? ⟨g_q, 3, none⟩ = some (.int .i64 d) ∧ w'.cell? ⟨w.heap.size + 1, 0, none⟩ = some (.int .i64 s.a) ∧ w'.cell? ⟨w.heap.size + 1, 1, none⟩ = some (.int .i64 s.b) ∧ w'.cell? ⟨w.heap.size + 1, 2, none⟩ = some (.int .i64 s.c) ∧ w'.cell? ⟨w.heap.size + 1, 3, none⟩ = some (.int .i64 s.d)) (by kernel_rfl) ⟨(q4c k_q).1.1, (q4c k_q).1.2.1, (q4c k_q).1.2.2.1, (q4c k_q).1.2.2.2, (q4c k_s).1.1, (q4c k_s).1.2.1, (q4c k_s).1.2.2.1, (q4c k_s).1.2.2.2⟩ ?_
        intro hHeld
        obtain ⟨X2, eX, bc⟩ : ∃ X, X = Y1.drew ∧ Below Y1.heap.size Y1 X := ⟨_, rfl, (Below.refl _ _).drew⟩
        rw [← eX] at hHeld ⊢
        replace k_r := bk bc k_r
        replace k_s := bk bc k_s
        replace k_q := bk bc k_q
        replace bw := bst bc bw
        clear eX bc
        refine takx (i := 0) (D := 29) (v := .agg #[.int .i64 a, .int .i64 b, .int .i64 c, .int .i64 d]) rfl rfl (by kernel_rfl) (by kernel_rfl) (by kernel_rfl) (fun _ _ _ h => h) (Or.inl ⟨by rfl, fun W hSw => by (try dsimp only at hSw); go_simp⟩) (by assumption) ?_
        (try simp only [List.setIfInBounds_toArray, List.set_cons_zero, List.set_cons_succ])
        refine takx (i := 1) (D := 30) (v := .agg #[.int .i64 s.a, .int .i64 s.b, .int .i64 s.c, .int .i64 s.d]) rfl rfl (by kernel_rfl) (by kernel_rfl) (by kernel_rfl) (fun _ _ _ h => h) (Or.inl ⟨by rfl, fun W hSw => by (try dsimp only at hSw); go_simp⟩) (by assumption) ?_
        (try simp only [List.setIfInBounds_toArray, List.set_cons_zero, List.set_cons_succ])
        refine wpAnyH_ready (rs := [2, 7]) (by kernel_rfl) (by simp) ?_
        refine (AllReadyH.cons rfl (fun K hK => ?_) (AllReadyH.cons rfl (fun K hK => ?_) AllReadyH.nil))
        · go_simp
          refine (toRect4 s.a s.b s.c s.d _).mono ?_
          rintro e X3 ⟨rfl, bc⟩
          refine hK.out _ _ ⟨ck bc hHeld.1, ck bc hHeld.2.1, ck bc hHeld.2.2.1, ck bc hHeld.2.2.2.1, ck bc hHeld.2.2.2.2.1, ck bc hHeld.2.2.2.2.2.1, ck bc hHeld.2.2.2.2.2.2.1, ck bc hHeld.2.2.2.2.2.2.2⟩ (fun hHeld => ?_)
          clear hK K
          (try simp only [List.setIfInBounds_toArray, List.set_cons_zero, List.set_cons_succ])
          replace k_r := bk bc k_r
          replace k_s := bk bc k_s
          replace k_q := bk bc k_q
          replace bw := bst bc bw
          clear bc
          refine wpAnyH_ready (rs := [3, 7]) (by kernel_rfl) (by simp) ?_
          refine (AllReadyH.cons rfl (fun K hK => ?_) (AllReadyH.cons rfl (fun K hK => ?_) AllReadyH.nil))
          · go_simp
            refine (common_some ⟨a, b, c, d⟩ s t HC.out _).mono ?_
            rintro e X4 ⟨rfl, bc⟩
            refine hK.out _ _ ⟨ck bc hHeld.1, ck bc hHeld.2.1, ck bc hHeld.2.2.1, ck bc hHeld.2.2.2.1, ck bc hHeld.2.2.2.2.1, ck bc hHeld.2.2.2.2.2.1, ck bc hHeld.2.2.2.2.2.2.1, ck bc hHeld.2.2.2.2.2.2.2⟩ (fun hHeld => ?_)
            clear hK K
            (try simp only [List.setIfInBounds_toArray, List.set_cons_zero, List.set_cons_succ])
            replace k_r := bk bc k_r
            replace k_s := bk bc k_s
            replace k_q := bk bc k_q
            replace bw := bst bc bw
            clear bc
            refine takx (i := 4) (D := 28) (v := .tuple #[.agg #[.int .i64 t.a, .int .i64 t.b, .int .i64 t.c, .int .i64 t.d], .bool true]) rfl rfl (by kernel_rfl) (by kernel_rfl) (by kernel_rfl) (fun _ _ _ h => h) (Or.inl ⟨by rfl, fun W hSw => by (try dsimp only at hSw); go_simp⟩) (by assumption) ?_
            (try simp only [List.setIfInBounds_toArray, List.set_cons_zero, List.set_cons_succ])
            refine takx (i := 5) (D := 33) (v := .agg #[.int .i64 t.a, .int .i64 t.b, .int .i64 t.c, .int .i64 t.d]) rfl rfl (by kernel_rfl) (by kernel_rfl) (by kernel_rfl) (fun _ _ _ h => h) (Or.inl ⟨by rfl, fun W hSw => by (try dsimp only at hSw); go_simp⟩) (by assumption) ?_
            (try simp only [List.setIfInBounds_toArray, List.set_cons_zero, List.set_cons_succ])
            refine takx (i := 6) (D := 34) (v := .bool true) rfl rfl (by kernel_rfl) (by kernel_rfl) (by kernel_rfl) (fun _ _ _ h => h) (Or.inl ⟨by rfl, fun W hSw => by (try dsimp only at hSw); go_simp⟩) (by assumption) ?_
            (try simp only [List.setIfInBounds_toArray, List.set_cons_zero, List.set_cons_succ])
            refine wpAnyH_ready (rs := [7]) (by kernel_rfl) (by simp) ?_
            refine (AllReadyH.cons rfl (fun K hK => ?_) AllReadyH.nil)
            go_simp
            refine hK.out _ _ ⟨cka hHeld.1, cka hHeld.2.1, cka hHeld.2.2.1, cka hHeld.2.2.2.1, cka hHeld.2.2.2.2.1, cka hHeld.2.2.2.2.2.1, cka hHeld.2.2.2.2.2.2.1, cka hHeld.2.2.2.2.2.2.2⟩ (fun hHeld => ?_)
            clear hK K
            (try simp only [List.setIfInBounds_toArray, List.set_cons_zero, List.set_cons_succ])
            obtain ⟨X5, g5, eY, eg⟩ : ∃ Y g, Y = X4.alloc (.cells #[.int .i64 0, .int .i64 0, .int .i64 0, .int .i64 0] 26) ∧ g = X4.heap.size := ⟨_, _, rfl, rfl⟩
            rw [← eY, ← eg]
            rw [← eY] at hHeld
            have bc : Below X4.heap.size X4 X5 := by rw [eY]; exact (Below.refl _ _).alloc (Nat.le_refl _) _
            have k_n14 : X5.heap[g5]? = some (.cells #[.int .i64 0, .int .i64 0, .int .i64 0, .int .i64 0] 26 (0, 0)) := by rw [eY, eg]; exact heap_alloc_new X4 _
            have lo_n14 : w.heap.size ≤ g5 := by rw [eg]; exact bw.size
            have ne_r_n14 : ¬ w.heap.size = g5 := ne_new k_r eg
            have ne_s_n14 : ¬ w.heap.size + 1 = g5 := ne_new k_s eg
            have ne_q_n14 : ¬ g_q = g5 := ne_new k_q eg
            replace k_r := bk bc k_r
            replace k_s := bk bc k_s
            replace k_q := bk bc k_q
            replace bw := bst bc bw
            clear bc eY eg
            refine wpAnyH_ready (rs := [8]) (by kernel_rfl) (by simp) ?_
            refine (AllReadyH.cons rfl (fun K hK => ?_) AllReadyH.nil)
            have qq := q4c k_n14
            go_simp
            clear qq
            refine hK.out _ _ ⟨(cks ne_q_n14 (cks ne_q_n14 (cks ne_q_n14 (cks ne_q_n14 hHeld.1)))), (cks ne_q_n14 (cks ne_q_n14 (cks ne_q_n14 (cks ne_q_n14 hHeld.2.1)))), (cks ne_q_n14 (cks ne_q_n14 (cks ne_q_n14 (cks ne_q_n14 hHeld.2.2.1)))), (cks ne_q_n14 (cks ne_q_n14 (cks ne_q_n14 (cks ne_q_n14 hHeld.2.2.2.1)))), (cks ne_s_n14 (cks ne_s_n14 (cks ne_s_n14 (cks ne_s_n14 hHeld.2.2.2.2.1)))), (cks ne_s_n14 (cks ne_s_n14 (cks ne_s_n14 (cks ne_s_n14 hHeld.2.2.2.2.2.1)))), (cks ne_s_n14 (cks ne_s_n14 (cks ne_s_n14 (cks ne_s_n14 hHeld.2.2.2.2.2.2.1)))), (cks ne_s_n14 (cks ne_s_n14 (cks ne_s_n14 (cks ne_s_n14 hHeld.2.2.2.2.2.2.2))))⟩ (fun hHeld => ?_)
            clear hK K
            (try simp only [List.setIfInBounds_toArray, List.set_cons_zero, List.set_cons_succ])
            obtain ⟨X6, eY⟩ : ∃ Y, Y = ((((X5.setCell ⟨g5, 0, none⟩ (.int .i64 t.a)).setCell ⟨g5, 1, none⟩ (.int .i64 t.b)).setCell ⟨g5, 2, none⟩ (.int .i64 t.c)).setCell ⟨g5, 3, none⟩ (.int .i64 t.d)) := ⟨_, rfl⟩
            rw [← eY] at hHeld ⊢
            replace k_r : X6.heap[w.heap.size]? = some (.cells #[.int .i64 a, .int .i64 b, .int .i64 c, .int .i64 d] 23 (0, 0)) := by rw [eY]; exact (bks ne_r_n14 (bks ne_r_n14 (bks ne_r_n14 (bks ne_r_n14 k_r))))
            replace k_s : X6.heap[w.heap.size + 1]? = some (.cells #[.int .i64 s.a, .int .i64 s.b, .int .i64 s.c, .int .i64 s.d] 23 (0, 0)) := by rw [eY]; exact (bks ne_s_n14 (bks ne_s_n14 (bks ne_s_n14 (bks ne_s_n14 k_s))))
            replace k_q : X6.heap[g_q]? = some (.cells #[.int .i64 a, .int .i64 b, .int .i64 c, .int .i64 d] 26 (0, 0)) := by rw [eY]; exact (bks ne_q_n14 (bks ne_q_n14 (bks ne_q_n14 (bks ne_q_n14 k_q))))
            replace bw : Below w.heap.size w X6 := by rw [eY]; exact (bss lo_n14 (bss lo_n14 (bss lo_n14 (bss lo_n14 bw))))
            replace k_n14 : X6.heap[g5]? = some (.cells #[.int .i64 t.a, .int .i64 t.b, .int .i64 t.c, .int .i64 t.d] 26 (0, 0)) := by rw [eY]; exact q4s k_n14
            clear eY
            refine takx (i := 9) (D := 15) (v := .bool true) rfl rfl (by kernel_rfl) (by kernel_rfl) (by kernel_rfl) (fun _ _ _ h => h) (Or.inl ⟨by rfl, fun W hSw => by (try dsimp only at hSw); go_simp⟩) (by assumption) ?_
            (try simp only [List.setIfInBounds_toArray, List.set_cons_zero, List.set_cons_succ])
            refine wpAnyH_done (by kernel_rfl) ?_ _
            go_wp2_with fail
            go_meet
            exact ⟨_, rfl, rfl, k_n14, k_r, k_s, k_q, bw⟩
          · go_simp
            refine hK.out _ _ ⟨cka hHeld.1, cka hHeld.2.1, cka hHeld.2.2.1, cka hHeld.2.2.2.1, cka hHeld.2.2.2.2.1, cka hHeld.2.2.2.2.2.1, cka hHeld.2.2.2.2.2.2.1, cka hHeld.2.2.2.2.2.2.2⟩ (fun hHeld => ?_)
            clear hK K
            (try simp only [List.setIfInBounds_toArray, List.set_cons_zero, List.set_cons_succ])
            obtain ⟨X7, g7, eY, eg⟩ : ∃ Y g, Y = X3.alloc (.cells #[.int .i64 0, .int .i64 0, .int .i64 0, .int .i64 0] 26) ∧ g = X3.heap.size := ⟨_, _, rfl, rfl⟩
            rw [← eY, ← eg]
            rw [← eY] at hHeld
            have bc : Below X3.heap.size X3 X7 := by rw [eY]; exact (Below.refl _ _).alloc (Nat.le_refl _) _
            have k_n14 : X7.heap[g7]? = some (.cells #[.int .i64 0, .int .i64 0, .int .i64 0, .int .i64 0] 26 (0, 0)) := by rw [eY, eg]; exact heap_alloc_new X3 _
            have lo_n14 : w.heap.size ≤ g7 := by rw [eg]; exact bw.size
            have ne_r_n14 : ¬ w.heap.size = g7 := ne_new k_r eg
            have ne_s_n14 : ¬ w.heap.size + 1 = g7 := ne_new k_s eg
            have ne_q_n14 : ¬ g_q = g7 := ne_new k_q eg
            replace k_r := bk bc k_r
            replace k_s := bk bc k_s
            replace k_q := bk bc k_q
            replace bw := bst bc bw
            clear bc eY eg
            refine wpAnyH_ready (rs := [3]) (by kernel_rfl) (by simp) ?_
            refine (AllReadyH.cons rfl (fun K hK => ?_) AllReadyH.nil)
            go_simp
            refine (common_some ⟨a, b, c, d⟩ s t HC.out _).mono ?_
            rintro e X8 ⟨rfl, bc⟩
            refine hK.out _ _ ⟨ck bc hHeld.1, ck bc hHeld.2.1, ck bc hHeld.2.2.1, ck bc hHeld.2.2.2.1, ck bc hHeld.2.2.2.2.1, ck bc hHeld.2.2.2.2.2.1, ck bc hHeld.2.2.2.2.2.2.1, ck bc hHeld.2.2.2.2.2.2.2⟩ (fun hHeld => ?_)
            clear hK K
            (try simp only [List.setIfInBounds_toArray, List.set_cons_zero, List.set_cons_succ])
            replace k_r := bk bc k_r
            replace k_s := bk bc k_s
            replace k_q := bk bc k_q
            replace k_n14 := bk bc k_n14
            replace bw := bst bc bw
            clear bc
            refine takx (i := 4) (D := 28) (v := .tuple #[.agg #[.int .i64 t.a, .int .i64 t.b, .int .i64 t.c, .int .i64 t.d], .bool true]) rfl rfl (by kernel_rfl) (by kernel_rfl) (by kernel_rfl) (fun _ _ _ h => h) (Or.inl ⟨by rfl, fun W hSw => by (try dsimp only at hSw); go_simp⟩) (by assumption) ?_
            (try simp only [List.setIfInBounds_toArray, List.set_cons_zero, List.set_cons_succ])
            refine takx (i := 5) (D := 33) (v := .agg #[.int .i64 t.a, .int .i64 t.b, .int .i64 t.c, .int .i64 t.d]) rfl rfl (by kernel_rfl) (by kernel_rfl) (by kernel_rfl) (fun _ _ _ h => h) (Or.inl ⟨by rfl, fun W hSw => by (try dsimp only at hSw); go_simp⟩) (by assumption) ?_
            (try simp only [List.setIfInBounds_toArray, List.set_cons_zero, List.set_cons_succ])
            refine takx (i := 6) (D := 34) (v := .bool true) rfl rfl (by kernel_rfl) (by kernel_rfl) (by kernel_rfl) (fun _ _ _ h => h) (Or.inl ⟨by rfl, fun W hSw => by (try dsimp only at hSw); go_simp⟩) (by assumption) ?_
            (try simp only [List.setIfInBounds_toArray, List.set_cons_zero, List.set_cons_succ])
            refine wpAnyH_ready (rs := [8]) (by kernel_rfl) (by simp) ?_
            refine (AllReadyH.cons rfl (fun K hK => ?_) AllReadyH.nil)
            have qq := q4c k_n14
            go_simp
            clear qq
            refine hK.out _ _ ⟨(cks ne_q_n14 (cks ne_q_n14 (cks ne_q_n14 (cks ne_q_n14 hHeld.1)))), (cks ne_q_n14 (cks ne_q_n14 (cks ne_q_n14 (cks ne_q_n14 hHeld.2.1)))), (cks ne_q_n14 (cks ne_q_n14 (cks ne_q_n14 (cks ne_q_n14 hHeld.2.2.1)))), (cks ne_q_n14 (cks ne_q_n14 (cks ne_q_n14 (cks ne_q_n14 hHeld.2.2.2.1)))), (cks ne_s_n14 (cks ne_s_n14 (cks ne_s_n14 (cks ne_s_n14 hHeld.2.2.2.2.1)))), (cks ne_s_n14 (cks ne_s_n14 (cks ne_s_n14 (cks ne_s_n14 hHeld.2.2.2.2.2.1)))), (cks ne_s_n14 (cks ne_s_n14 (cks ne_s_n14 (cks ne_s_n14 hHeld.2.2.2.2.2.2.1)))), (cks ne_s_n14 (cks ne_s_n14 (cks ne_s_n14 (cks ne_s_n14 hHeld.2.2.2.2.2.2.2))))⟩ (fun hHeld => ?_)
            clear hK K
            (try simp only [List.setIfInBounds_toArray, List.set_cons_zero, List.set_cons_succ])
            obtain ⟨X9, eY⟩ : ∃ Y, Y = ((((X8.setCell ⟨g7, 0, none⟩ (.int .i64 t.a)).setCell ⟨g7, 1, none⟩ (.int .i64 t.b)).setCell ⟨g7, 2, none⟩ (.int .i64 t.c)).setCell ⟨g7, 3, none⟩ (.int .i64 t.d)) := ⟨_, rfl⟩
            rw [← eY] at hHeld ⊢
            replace k_r : X9.heap[w.heap.size]? = some (.cells #[.int .i64 a, .int .i64 b, .int .i64 c, .int .i64 d] 23 (0, 0)) := by rw [eY]; exact (bks ne_r_n14 (bks ne_r_n14 (bks ne_r_n14 (bks ne_r_n14 k_r))))
            replace k_s : X9.heap[w.heap.size + 1]? = some (.cells #[.int .i64 s.a, .int .i64 s.b, .int .i64 s.c, .int .i64 s.d] 23 (0, 0)) := by rw [eY]; exact (bks ne_s_n14 (bks ne_s_n14 (bks ne_s_n14 (bks ne_s_n14 k_s))))
            replace k_q : X9.heap[g_q]? = some (.cells #[.int .i64 a, .int .i64 b, .int .i64 c, .int .i64 d] 26 (0, 0)) := by rw [eY]; exact (bks ne_q_n14 (bks ne_q_n14 (bks ne_q_n14 (bks ne_q_n14 k_q))))
            replace bw : Below w.heap.size w X9 := by rw [eY]; exact (bss lo_n14 (bss lo_n14 (bss lo_n14 (bss lo_n14 bw))))
            replace k_n14 : X9.heap[g7]? = some (.cells #[.int .i64 t.a, .int .i64 t.b, .int .i64 t.c, .int .i64 t.d] 26 (0, 0)) := by rw [eY]; exact q4s k_n14
            clear eY
            refine takx (i := 9) (D := 15) (v := .bool true) rfl rfl (by kernel_rfl) (by kernel_rfl) (by kernel_rfl) (fun _ _ _ h => h) (Or.inl ⟨by rfl, fun W hSw => by (try dsimp only at hSw); go_simp⟩) (by assumption) ?_
            (try simp only [List.setIfInBounds_toArray, List.set_cons_zero, List.set_cons_succ])
            refine wpAnyH_done (by kernel_rfl) ?_ _
            go_wp2_with fail
            go_meet
            exact ⟨_, rfl, rfl, k_n14, k_r, k_s, k_q, bw⟩
        · go_simp
          refine hK.out _ _ ⟨cka hHeld.1, cka hHeld.2.1, cka hHeld.2.2.1, cka hHeld.2.2.2.1, cka hHeld.2.2.2.2.1, cka hHeld.2.2.2.2.2.1, cka hHeld.2.2.2.2.2.2.1, cka hHeld.2.2.2.2.2.2.2⟩ (fun hHeld => ?_)
          clear hK K
          (try simp only [List.setIfInBounds_toArray, List.set_cons_zero, List.set_cons_succ])
          obtain ⟨X10, g10, eY, eg⟩ : ∃ Y g, Y = X2.alloc (.cells #[.int .i64 0, .int .i64 0, .int .i64 0, .int .i64 0] 26) ∧ g = X2.heap.size := ⟨_, _, rfl, rfl⟩
          rw [← eY, ← eg]
          rw [← eY] at hHeld
          have bc : Below X2.heap.size X2 X10 := by rw [eY]; exact (Below.refl _ _).alloc (Nat.le_refl _) _
          have k_n14 : X10.heap[g10]? = some (.cells #[.int .i64 0, .int .i64 0, .int .i64 0, .int .i64 0] 26 (0, 0)) := by rw [eY, eg]; exact heap_alloc_new X2 _
          have lo_n14 : w.heap.size ≤ g10 := by rw [eg]; exact bw.size
          have ne_r_n14 : ¬ w.heap.size = g10 := ne_new k_r eg
          have ne_s_n14 : ¬ w.heap.size + 1 = g10 := ne_new k_s eg
          have ne_q_n14 : ¬ g_q = g10 := ne_new k_q eg
          replace k_r := bk bc k_r
          replace k_s := bk bc k_s
          replace k_q := bk bc k_q
          replace bw := bst bc bw
          clear bc eY eg
          refine wpAnyH_ready (rs := [2]) (by kernel_rfl) (by simp) ?_
          refine (AllReadyH.cons rfl (fun K hK => ?_) AllReadyH.nil)
          go_simp
          refine (toRect4 s.a s.b s.c s.d _).mono ?_
          rintro e X11 ⟨rfl, bc⟩
          refine hK.out _ _ ⟨ck bc hHeld.1, ck bc hHeld.2.1, ck bc hHeld.2.2.1, ck bc hHeld.2.2.2.1, ck bc hHeld.2.2.2.2.1, ck bc hHeld.2.2.2.2.2.1, ck bc hHeld.2.2.2.2.2.2.1, ck bc hHeld.2.2.2.2.2.2.2⟩ (fun hHeld => ?_)
          clear hK K
          (try simp only [List.setIfInBounds_toArray, List.set_cons_zero, List.set_cons_succ])
          replace k_r := bk bc k_r
          replace k_s := bk bc k_s
          replace k_q := bk bc k_q
          replace k_n14 := bk bc k_n14
          replace bw := bst bc bw
          clear bc
          refine wpAnyH_ready (rs := [3]) (by kernel_rfl) (by simp) ?_
          refine (AllReadyH.cons rfl (fun K hK => ?_) AllReadyH.nil)
          go_simp
          refine (common_some ⟨a, b, c, d⟩ s t HC.out _).mono ?_
          rintro e X12 ⟨rfl, bc⟩
          refine hK.out _ _ ⟨ck bc hHeld.1, ck bc hHeld.2.1, ck bc hHeld.2.2.1, ck bc hHeld.2.2.2.1, ck bc hHeld.2.2.2.2.1, ck bc hHeld.2.2.2.2.2.1, ck bc hHeld.2.2.2.2.2.2.1, ck bc hHeld.2.2.2.2.2.2.2⟩ (fun hHeld => ?_)
          clear hK K
          (try simp only [List.setIfInBounds_toArray, List.set_cons_zero, List.set_cons_succ])
          replace k_r := bk bc k_r
          replace k_s := bk bc k_s
          replace k_q := bk bc k_q
          replace k_n14 := bk bc k_n14
          replace bw := bst bc bw
          clear bc
          refine takx (i := 4) (D := 28) (v := .tuple #[.agg #[.int .i64 t.a, .int .i64 t.b, .int .i64 t.c, .int .i64 t.d], .bool true]) rfl rfl (by kernel_rfl) (by kernel_rfl) (by kernel_rfl) (fun _ _ _ h => h) (Or.inl ⟨by rfl, fun W hSw => by (try dsimp only at hSw); go_simp⟩) (by assumption) ?_
          (try simp only [List.setIfInBounds_toArray, List.set_cons_zero, List.set_cons_succ])
          refine takx (i := 5) (D := 33) (v := .agg #[.int .i64 t.a, .int .i64 t.b, .int .i64 t.c, .int .i64 t.d]) rfl rfl (by kernel_rfl) (by kernel_rfl) (by kernel_rfl) (fun _ _ _ h => h) (Or.inl ⟨by rfl, fun W hSw => by (try dsimp only at hSw); go_simp⟩) (by assumption) ?_
          (try simp only [List.setIfInBounds_toArray, List.set_cons_zero, List.set_cons_succ])
          refine takx (i := 6) (D := 34) (v := .bool true) rfl rfl (by kernel_rfl) (by kernel_rfl) (by kernel_rfl) (fun _ _ _ h => h) (Or.inl ⟨by rfl, fun W hSw => by (try dsimp only at hSw); go_simp⟩) (by assumption) ?_
          (try simp only [List.setIfInBounds_toArray, List.set_cons_zero, List.set_cons_succ])
          refine wpAnyH_ready (rs := [8]) (by kernel_rfl) (by simp) ?_
          refine (AllReadyH.cons rfl (fun K hK => ?_) AllReadyH.nil)
          have qq := q4c k_n14
          go_simp
          clear qq
          refine hK.out _ _ ⟨(cks ne_q_n14 (cks ne_q_n14 (cks ne_q_n14 (cks ne_q_n14 hHeld.1)))), (cks ne_q_n14 (cks ne_q_n14 (cks ne_q_n14 (cks ne_q_n14 hHeld.2.1)))), (cks ne_q_n14 (cks ne_q_n14 (cks ne_q_n14 (cks ne_q_n14 hHeld.2.2.1)))), (cks ne_q_n14 (cks ne_q_n14 (cks ne_q_n14 (cks ne_q_n14 hHeld.2.2.2.1)))), (cks ne_s_n14 (cks ne_s_n14 (cks ne_s_n14 (cks ne_s_n14 hHeld.2.2.2.2.1)))), (cks ne_s_n14 (cks ne_s_n14 (cks ne_s_n14 (cks ne_s_n14 hHeld.2.2.2.2.2.1)))), (cks ne_s_n14 (cks ne_s_n14 (cks ne_s_n14 (cks ne_s_n14 hHeld.2.2.2.2.2.2.1)))), (cks ne_s_n14 (cks ne_s_n14 (cks ne_s_n14 (cks ne_s_n14 hHeld.2.2.2.2.2.2.2))))⟩ (fun hHeld => ?_)
          clear hK K
          (try simp only [List.setIfInBounds_toArray, List.set_cons_zero, List.set_cons_succ])
          obtain ⟨X13, eY⟩ : ∃ Y, Y = ((((X12.setCell ⟨g10, 0, none⟩ (.int .i64 t.a)).setCell ⟨g10, 1, none⟩ (.int .i64 t.b)).setCell ⟨g10, 2, none⟩ (.int .i64 t.c)).setCell ⟨g10, 3, none⟩ (.int .i64 t.d)) := ⟨_, rfl⟩
          rw [← eY] at hHeld ⊢
          replace k_r : X13.heap[w.heap.size]? = some (.cells #[.int .i64 a, .int .i64 b, .int .i64 c, .int .i64 d] 23 (0, 0)) := by rw [eY]; exact (bks ne_r_n14 (bks ne_r_n14 (bks ne_r_n14 (bks ne_r_n14 k_r))))
          replace k_s : X13.heap[w.heap.size + 1]? = some (.cells #[.int .i64 s.a, .int .i64 s.b, .int .i64 s.c, .int .i64 s.d] 23 (0, 0)) := by rw [eY]; exact (bks ne_s_n14 (bks ne_s_n14 (bks ne_s_n14 (bks ne_s_n14 k_s))))
          replace k_q : X13.heap[g_q]? = some (.cells #[.int .i64 a, .int .i64 b, .int .i64 c, .int .i64 d] 26 (0, 0)) := by rw [eY]; exact (bks ne_q_n14 (bks ne_q_n14 (bks ne_q_n14 (bks ne_q_n14 k_q))))
          replace bw : Below w.heap.size w X13 := by rw [eY]; exact (bss lo_n14 (bss lo_n14 (bss lo_n14 (bss lo_n14 bw))))
          replace k_n14 : X13.heap[g10]? = some (.cells #[.int .i64 t.a, .int .i64 t.b, .int .i64 t.c, .int .i64 t.d] 26 (0, 0)) := by rw [eY]; exact q4s k_n14
          clear eY
          refine takx (i := 9) (D := 15) (v := .bool true) rfl rfl (by kernel_rfl) (by kernel_rfl) (by kernel_rfl) (fun _ _ _ h => h) (Or.inl ⟨by rfl, fun W hSw => by (try dsimp only at hSw); go_simp⟩) (by assumption) ?_
          (try simp only [List.setIfInBounds_toArray, List.set_cons_zero, List.set_cons_succ])
          refine wpAnyH_done (by kernel_rfl) ?_ _
          go_wp2_with fail
          go_meet
          exact ⟨_, rfl, rfl, k_n14, k_r, k_s, k_q, bw⟩
      case rest =>
        clear k_r k_s k_q bw
        obtain ⟨g_both, rfl, rfl, k_both, k_r, k_s, k_q, BW⟩ := hcut
        have bw := BW.out
        clear BW
        have q_r := q4c k_r
        have q_s := q4c k_s
        have q_q := q4c k_q
        have q_both := q4c k_both
        go_wp2_with fail
        refine (fine_yes a b c d HF.out _).mono ?_
        rintro e Y15 ⟨rfl, bc⟩
        clear q_r q_s q_q q_both
        replace k_r := bk bc k_r
        replace k_s := bk bc k_s
        replace k_q := bk bc k_q
        replace k_both := bk bc k_both
        replace bw := bst bc bw
        clear bc
        have q_r := q4c k_r
        have q_s := q4c k_s
        have q_q := q4c k_q
        have q_both := q4c k_both
        go_wp2_with fail
        refine (has_no t.a t.b t.c t.d x y HI.out _).mono ?_
        rintro e Y16 ⟨rfl, bc⟩
        clear q_r q_s q_q q_both
        replace k_r := bk bc k_r
        replace k_s := bk bc k_s
        replace k_q := bk bc k_q
        replace k_both := bk bc k_both
        replace bw := bst bc bw
        clear bc
        go_wp2
        go_ret
        exact ⟨rfl, bw⟩
    have HI := Lib.hid hin
    clear hin
    have hR : In a b c d x y := (com_some HC.out).2.2.2.inn HI.out
    have OK1 := Lib.hid (show ∀ u ∈ [(⟨4, 0, 0, ⟨0, 0, 0, 0⟩, s⟩ : Stp), ⟨1, x, y, ⟨z, 0, 0, 0⟩, ⟨0, 0, 0, 0⟩⟩, ⟨5, 0, 0, ⟨0, 0, 0, 0⟩, ⟨0, 0, 0, 0⟩⟩, ⟨2, x, y, ⟨0, 0, 0, 0⟩, ⟨0, 0, 0, 0⟩⟩], u.ok by
      intro u hu
      simp only [List.mem_cons, List.not_mem_nil, or_false] at hu
      rcases hu with rfl | rfl | rfl | rfl <;> (refine ⟨?_, ?_, ?_, ?_, ?_⟩ <;> first | assumption | exact ⟨zero_ok, zero_ok, zero_ok, zero_ok⟩ | exact ⟨hz, zero_ok, zero_ok, zero_ok⟩ | (unfold I64; dsimp only; omega)))
    have OK2 := Lib.hid (show ∀ u ∈ [(⟨1, x, y, ⟨z, 0, 0, 0⟩, ⟨0, 0, 0, 0⟩⟩ : Stp), ⟨4, 0, 0, ⟨0, 0, 0, 0⟩, s⟩, ⟨2, x, y, ⟨0, 0, 0, 0⟩, ⟨0, 0, 0, 0⟩⟩], u.ok by
      intro u hu
      simp only [List.mem_cons, List.not_mem_nil, or_false] at hu
      rcases hu with rfl | rfl | rfl <;> (refine ⟨?_, ?_, ?_, ?_, ?_⟩ <;> first | assumption | exact ⟨zero_ok, zero_ok, zero_ok, zero_ok⟩ | exact ⟨hz, zero_ok, zero_ok, zero_ok⟩ | (unfold I64; dsimp only; omega)))
    have E1 := Lib.hid (show (grun ⟨a, b, c, d⟩ (gini ⟨a, b, c, d⟩ (byt N zs)) [⟨4, 0, 0, ⟨0, 0, 0, 0⟩, s⟩, ⟨1, x, y, ⟨z, 0, 0, 0⟩, ⟨0, 0, 0, 0⟩⟩, ⟨5, 0, 0, ⟨0, 0, 0, 0⟩, ⟨0, 0, 0, 0⟩⟩, ⟨2, x, y, ⟨0, 0, 0, 0⟩, ⟨0, 0, 0, 0⟩⟩]).cs = [z % 256] ∧ (grun ⟨a, b, c, d⟩ (gini ⟨a, b, c, d⟩ (byt N zs)) [⟨4, 0, 0, ⟨0, 0, 0, 0⟩, s⟩, ⟨1, x, y, ⟨z, 0, 0, 0⟩, ⟨0, 0, 0, 0⟩⟩, ⟨5, 0, 0, ⟨0, 0, 0, 0⟩, ⟨0, 0, 0, 0⟩⟩, ⟨2, x, y, ⟨0, 0, 0, 0⟩, ⟨0, 0, 0, 0⟩⟩]).bs = wrAt (byt N zs) a b c d x y (z % 256) by
      rw [run_cons, gstep4 _ _ _ rfl, run_cons, gstep1 _ _ _ rfl, run_cons, gstep5 _ _ _ rfl, run_cons, gstep2 _ _ _ rfl, run_nil]
      simp only [gini, Option.bind_some, HC.out, List.nil_append, List.cons.injEq, and_true]
      rw [painted_in HI.out]
      refine ⟨?_, rfl⟩
      rw [seen_in (q := ⟨a, b, c, d⟩) hR]
      exact rd_wr_same HN.out (byt_length _ _) hR)
    have E2 := Lib.hid (show (grun ⟨a, b, c, d⟩ (gini ⟨a, b, c, d⟩ (byt N zs)) [⟨1, x, y, ⟨z, 0, 0, 0⟩, ⟨0, 0, 0, 0⟩⟩, ⟨4, 0, 0, ⟨0, 0, 0, 0⟩, s⟩, ⟨2, x, y, ⟨0, 0, 0, 0⟩, ⟨0, 0, 0, 0⟩⟩]).cs = [z % 256] ∧ (grun ⟨a, b, c, d⟩ (gini ⟨a, b, c, d⟩ (byt N zs)) [⟨1, x, y, ⟨z, 0, 0, 0⟩, ⟨0, 0, 0, 0⟩⟩, ⟨4, 0, 0, ⟨0, 0, 0, 0⟩, s⟩, ⟨2, x, y, ⟨0, 0, 0, 0⟩, ⟨0, 0, 0, 0⟩⟩]).bs = wrAt (byt N zs) a b c d x y (z % 256) by
      rw [run_cons, gstep1 _ _ _ rfl, run_cons, gstep4 _ _ _ rfl, run_cons, gstep2 _ _ _ rfl, run_nil]
      simp only [gini, Option.bind_some, HC.out, List.nil_append, List.cons.injEq, and_true]
      rw [painted_in (q := ⟨a, b, c, d⟩) hR]
      refine ⟨?_, rfl⟩
      rw [seen_in HI.out]
      exact rd_wr_same HN.out (byt_length _ _) hR)
    go_enter Try.func21, Try.ntmps21
    go_wp2_with fail
    refine (toRect4 a b c d _).mono ?_
    rintro e w1 ⟨rfl, bc⟩
    have bw := bst bc (bsa (bsa (Below.refl _ _)))
    have k_r : w1.heap[w.heap.size]? = some (.cells #[.int .i64 a, .int .i64 b, .int .i64 c, .int .i64 d] 23 (0, 0)) := by have := bk bc (bka (heap_alloc_new w _)); simpa using this
    have k_s : w1.heap[w.heap.size + 1]? = some (.cells #[.int .i64 s.a, .int .i64 s.b, .int .i64 s.c, .int .i64 s.d] 23 (0, 0)) := by have := bk bc (heap_alloc_new (w.alloc (.cells #[.int .i64 a, .int .i64 b, .int .i64 c, .int .i64 d] 23)) _); simpa using this
    clear bc
    go_upto_region 2 with fail
    obtain ⟨Y1, g_q, eY, eg⟩ : ∃ Y g, Y = w1.alloc (.cells #[.int .i64 a, .int .i64 b, .int .i64 c, .int .i64 d] 26) ∧ g = w1.heap.size := ⟨_, _, rfl, rfl⟩
    rw [← eY, ← eg]
    have bc : Below w1.heap.size w1 Y1 := by rw [eY]; exact (Below.refl _ _).alloc (Nat.le_refl _) _
    have k_q : Y1.heap[g_q]? = some (.cells #[.int .i64 a, .int .i64 b, .int .i64 c, .int .i64 d] 26 (0, 0)) := by rw [eY, eg]; exact heap_alloc_new w1 _
    replace k_r := bk bc k_r
    replace k_s := bk bc k_s
    replace bw := bst bc bw
    clear bc eY eg
    go_cut [14, 15] (fun s14 s15 wx => ∃ (g_both : Nat), s14 = .pointer (some ⟨g_both, 0, none⟩) ∧ s15 = .bool true ∧ wx.heap[g_both]? = some (.cells #[.int .i64 t.a, .int .i64 t.b, .int .i64 t.c, .int .i64 t.d] 26 (0, 0)) ∧ wx.heap[w.heap.size]? = some (.cells #[.int .i64 a, .int .i64 b, .int .i64 c, .int .i64 d] 23 (0, 0)) ∧ wx.heap[w.heap.size + 1]? = some (.cells #[.int .i64 s.a, .int .i64 s.b, .int .i64 s.c, .int .i64 s.d] 23 (0, 0)) ∧ wx.heap[g_q]? = some (.cells #[.int .i64 a, .int .i64 b, .int .i64 c, .int .i64 d] 26 (0, 0)) ∧ Hid (Below w.heap.size w wx))
    case first =>
      refine wp_region_held_drew (S := fun w' => w'.cell? ⟨g_q, 0, none⟩ = some (.int .i64 a) ∧ w'.cell? ⟨g_q, 1, none⟩ = some (.int .i64 b) ∧ w'.cell? ⟨g_q, 2, none⟩ = some (.int .i64 c) ∧ w'.cell? ⟨g_q, 3, none⟩ = some (.int .i64 d) ∧ w'.cell? ⟨w.heap.size + 1, 0, none⟩ = some (.int .i64 s.a) ∧ w'.cell? ⟨w.heap.size + 1, 1, none⟩ = some (.int .i64 s.b) ∧ w'.cell? ⟨w.heap.size + 1, 2, none⟩ = some (.int .i64 s.c) ∧ w'.cell? ⟨w.heap.size + 1, 3, none⟩ = some (.int .i64 s.d)) (by kernel_rfl) ⟨(q4c k_q).1.1, (q4c k_q).1.2.1, (q4c k_q).1.2.2.1, (q4c k_q).1.2.2.2, (q4c k_s).1.1, (q4c k_s).1.2.1, (q4c k_s).1.2.2.1, (q4c k_s).1.2.2.2⟩ ?_
      intro hHeld
      obtain ⟨X2, eX, bc⟩ : ∃ X, X = Y1.drew ∧ Below Y1.heap.size Y1 X := ⟨_, rfl, (Below.refl _ _).drew⟩
      rw [← eX] at hHeld ⊢
      replace k_r := bk bc k_r
      replace k_s := bk bc k_s
      replace k_q := bk bc k_q
      replace bw := bst bc bw
      clear eX bc
      refine takx (i := 0) (D := 29) (v := .agg #[.int .i64 a, .int .i64 b, .int .i64 c, .int .i64 d]) rfl rfl (by kernel_rfl) (by kernel_rfl) (by kernel_rfl) (fun _ _ _ h => h) (Or.inl ⟨by rfl, fun W hSw => by (try dsimp only at hSw); go_simp⟩) (by assumption) ?_
      (try simp only [List.setIfInBounds_toArray, List.set_cons_zero, List.set_cons_succ])
      refine takx (i := 1) (D := 30) (v := .agg #[.int .i64 s.a, .int .i64 s.b, .int .i64 s.c, .int .i64 s.d]) rfl rfl (by kernel_rfl) (by kernel_rfl) (by kernel_rfl) (fun _ _ _ h => h) (Or.inl ⟨by rfl, fun W hSw => by (try dsimp only at hSw); go_simp⟩) (by assumption) ?_
      (try simp only [List.setIfInBounds_toArray, List.set_cons_zero, List.set_cons_succ])
      refine wpAnyH_ready (rs := [2, 7]) (by kernel_rfl) (by simp) ?_
      refine (AllReadyH.cons rfl (fun K hK => ?_) (AllReadyH.cons rfl (fun K hK => ?_) AllReadyH.nil))
      · go_simp
        refine (toRect4 s.a s.b s.c s.d _).mono ?_
        rintro e X3 ⟨rfl, bc⟩
        refine hK.out _ _ ⟨ck bc hHeld.1, ck bc hHeld.2.1, ck bc hHeld.2.2.1, ck bc hHeld.2.2.2.1, ck bc hHeld.2.2.2.2.1, ck bc hHeld.2.2.2.2.2.1, ck bc hHeld.2.2.2.2.2.2.1, ck bc hHeld.2.2.2.2.2.2.2⟩ (fun hHeld => ?_)
        clear hK K
        (try simp only [List.setIfInBounds_toArray, List.set_cons_zero, List.set_cons_succ])
        replace k_r := bk bc k_r
        replace k_s := bk bc k_s
        replace k_q := bk bc k_q
        replace bw := bst bc bw
        clear bc
        refine wpAnyH_ready (rs := [3, 7]) (by kernel_rfl) (by simp) ?_
        refine (AllReadyH.cons rfl (fun K hK => ?_) (AllReadyH.cons rfl (fun K hK => ?_) AllReadyH.nil))
        · go_simp
          refine (common_some ⟨a, b, c, d⟩ s t HC.out _).mono ?_
          rintro e X4 ⟨rfl, bc⟩
          refine hK.out _ _ ⟨ck bc hHeld.1, ck bc hHeld.2.1, ck bc hHeld.2.2.1, ck bc hHeld.2.2.2.1, ck bc hHeld.2.2.2.2.1, ck bc hHeld.2.2.2.2.2.1, ck bc hHeld.2.2.2.2.2.2.1, ck bc hHeld.2.2.2.2.2.2.2⟩ (fun hHeld => ?_)
          clear hK K
          (try simp only [List.setIfInBounds_toArray, List.set_cons_zero, List.set_cons_succ])
          replace k_r := bk bc k_r
          replace k_s := bk bc k_s
          replace k_q := bk bc k_q
          replace bw := bst bc bw
          clear bc
          refine takx (i := 4) (D := 28) (v := .tuple #[.agg #[.int .i64 t.a, .int .i64 t.b, .int .i64 t.c, .int .i64 t.d], .bool true]) rfl rfl (by kernel_rfl) (by kernel_rfl) (by kernel_rfl) (fun _ _ _ h => h) (Or.inl ⟨by rfl, fun W hSw => by (try dsimp only at hSw); go_simp⟩) (by assumption) ?_
          (try simp only [List.setIfInBounds_toArray, List.set_cons_zero, List.set_cons_succ])
          refine takx (i := 5) (D := 33) (v := .agg #[.int .i64 t.a, .int .i64 t.b, .int .i64 t.c, .int .i64 t.d]) rfl rfl (by kernel_rfl) (by kernel_rfl) (by kernel_rfl) (fun _ _ _ h => h) (Or.inl ⟨by rfl, fun W hSw => by (try dsimp only at hSw); go_simp⟩) (by assumption) ?_
          (try simp only [List.setIfInBounds_toArray, List.set_cons_zero, List.set_cons_succ])
          refine takx (i := 6) (D := 34) (v := .bool true) rfl rfl (by kernel_rfl) (by kernel_rfl) (by kernel_rfl) (fun _ _ _ h => h) (Or.inl ⟨by rfl, fun W hSw => by (try dsimp only at hSw); go_simp⟩) (by assumption) ?_
          (try simp only [List.setIfInBounds_toArray, List.set_cons_zero, List.set_cons_succ])
          refine wpAnyH_ready (rs := [7]) (by kernel_rfl) (by simp) ?_
          refine (AllReadyH.cons rfl (fun K hK => ?_) AllReadyH.nil)
          go_simp
          refine hK.out _ _ ⟨cka hHeld.1, cka hHeld.2.1, cka hHeld.2.2.1, cka hHeld.2.2.2.1, cka hHeld.2.2.2.2.1, cka hHeld.2.2.2.2.2.1, cka hHeld.2.2.2.2.2.2.1, cka hHeld.2.2.2.2.2.2.2⟩ (fun hHeld => ?_)
          clear hK K
          (try simp only [List.setIfInBounds_toArray, List.set_cons_zero, List.set_cons_succ])
          obtain ⟨X5, g5, eY, eg⟩ : ∃ Y g, Y = X4.alloc (.cells #[.int .i64 0, .int .i64 0, .int .i64 0, .int .i64 0] 26) ∧ g = X4.heap.size := ⟨_, _, rfl, rfl⟩
          rw [← eY, ← eg]
          rw [← eY] at hHeld
          have bc : Below X4.heap.size X4 X5 := by rw [eY]; exact (Below.refl _ _).alloc (Nat.le_refl _) _
          have k_n14 : X5.heap[g5]? = some (.cells #[.int .i64 0, .int .i64 0, .int .i64 0, .int .i64 0] 26 (0, 0)) := by rw [eY, eg]; exact heap_alloc_new X4 _
          have lo_n14 : w.heap.size ≤ g5 := by rw [eg]; exact bw.size
          have ne_r_n14 : ¬ w.heap.size = g5 := ne_new k_r eg
          have ne_s_n14 : ¬ w.heap.size + 1 = g5 := ne_new k_s eg
          have ne_q_n14 : ¬ g_q = g5 := ne_new k_q eg
          replace k_r := bk bc k_r
          replace k_s := bk bc k_s
          replace k_q := bk bc k_q
          replace bw := bst bc bw
          clear bc eY eg
          refine wpAnyH_ready (rs := [8]) (by kernel_rfl) (by simp) ?_
          refine (AllReadyH.cons rfl (fun K hK => ?_) AllReadyH.nil)
          have qq := q4c k_n14
          go_simp
          clear qq
          refine hK.out _ _ ⟨(cks ne_q_n14 (cks ne_q_n14 (cks ne_q_n14 (cks ne_q_n14 hHeld.1)))), (cks ne_q_n14 (cks ne_q_n14 (cks ne_q_n14 (cks ne_q_n14 hHeld.2.1)))), (cks ne_q_n14 (cks ne_q_n14 (cks ne_q_n14 (cks ne_q_n14 hHeld.2.2.1)))), (cks ne_q_n14 (cks ne_q_n14 (cks ne_q_n14 (cks ne_q_n14 hHeld.2.2.2.1)))), (cks ne_s_n14 (cks ne_s_n14 (cks ne_s_n14 (cks ne_s_n14 hHeld.2.2.2.2.1)))), (cks ne_s_n14 (cks ne_s_n14 (cks ne_s_n14 (cks ne_s_n14 hHeld.2.2.2.2.2.1)))), (cks ne_s_n14 (cks ne_s_n14 (cks ne_s_n14 (cks ne_s_n14 hHeld.2.2.2.2.2.2.1)))), (cks ne_s_n14 (cks ne_s_n14 (cks ne_s_n14 (cks ne_s_n14 hHeld.2.2.2.2.2.2.2))))⟩ (fun hHeld => ?_)
          clear hK K
          (try simp only [List.setIfInBounds_toArray, List.set_cons_zero, List.set_cons_succ])
          obtain ⟨X6, eY⟩ : ∃ Y, Y = ((((X5.setCell ⟨g5, 0, none⟩ (.int .i64 t.a)).setCell ⟨g5, 1, none⟩ (.int .i64 t.b)).setCell ⟨g5, 2, none⟩ (.int .i64 t.c)).setCell ⟨g5, 3, none⟩ (.int .i64 t.d)) := ⟨_, rfl⟩
          rw [← eY] at hHeld ⊢
          replace k_r : X6.heap[w.heap.size]? = some (.cells #[.int .i64 a, .int .i64 b, .int .i64 c, .int .i64 d] 23 (0, 0)) := by rw [eY]; exact (bks ne_r_n14 (bks ne_r_n14 (bks ne_r_n14 (bks ne_r_n14 k_r))))
          replace k_s : X6.heap[w.heap.size + 1]? = some (.cells #[.int .i64 s.a, .int .i64 s.b, .int .i64 s.c, .int .i64 s.d] 23 (0, 0)) := by rw [eY]; exact (bks ne_s_n14 (bks ne_s_n14 (bks ne_s_n14 (bks ne_s_n14 k_s))))
          replace k_q : X6.heap[g_q]? = some (.cells #[.int .i64 a, .int .i64 b, .int .i64 c, .int .i64 d] 26 (0, 0)) := by rw [eY]; exact (bks ne_q_n14 (bks ne_q_n14 (bks ne_q_n14 (bks ne_q_n14 k_q))))
          replace bw : Below w.heap.size w X6 := by rw [eY]; exact (bss lo_n14 (bss lo_n14 (bss lo_n14 (bss lo_n14 bw))))
          replace k_n14 : X6.heap[g5]? = some (.cells #[.int .i64 t.a, .int .i64 t.b, .int .i64 t.c, .int .i64 t.d] 26 (0, 0)) := by rw [eY]; exact q4s k_n14
          clear eY
          refine takx (i := 9) (D := 15) (v := .bool true) rfl rfl (by kernel_rfl) (by kernel_rfl) (by kernel_rfl) (fun _ _ _ h => h) (Or.inl ⟨by rfl, fun W hSw => by (try dsimp only at hSw); go_simp⟩) (by assumption) ?_
          (try simp only [List.setIfInBounds_toArray, List.set_cons_zero, List.set_cons_succ])
          refine wpAnyH_done (by kernel_rfl) ?_ _
          go_wp2_with fail
          go_meet
          exact ⟨_, rfl, rfl, k_n14, k_r, k_s, k_q, bw⟩
        · go_simp
          refine hK.out _ _ ⟨cka hHeld.1, cka hHeld.2.1, cka hHeld.2.2.1, cka hHeld.2.2.2.1, cka hHeld.2.2.2.2.1, cka hHeld.2.2.2.2.2.1, cka hHeld.2.2.2.2.2.2.1, cka hHeld.2.2.2.2.2.2.2⟩ (fun hHeld => ?_)
          clear hK K
          (try simp only [List.setIfInBounds_toArray, List.set_cons_zero, List.set_cons_succ])
          obtain ⟨X7, g7, eY, eg⟩ : ∃ Y g, Y = X3.alloc (.cells #[.int .i64 0, .int .i64 0, .int .i64 0, .int .i64 0] 26) ∧ g = X3.heap.size := ⟨_, _, rfl, rfl⟩
          rw [← eY, ← eg]
          rw [← eY] at hHeld
          have bc : Below X3.heap.size X3 X7 := by rw [eY]; exact (Below.refl _ _).alloc (Nat.le_refl _) _
          have k_n14 : X7.heap[g7]? = some (.cells #[.int .i64 0, .int .i64 0, .int .i64 0, .int .i64 0] 26 (0, 0)) := by rw [eY, eg]; exact heap_alloc_new X3 _
          have lo_n14 : w.heap.size ≤ g7 := by rw [eg]; exact bw.size
          have ne_r_n14 : ¬ w.heap.size = g7 := ne_new k_r eg
          have ne_s_n14 : ¬ w.heap.size + 1 = g7 := ne_new k_s eg
          have ne_q_n14 : ¬ g_q = g7 := ne_new k_q eg
          replace k_r := bk bc k_r
          replace k_s := bk bc k_s
          replace k_q := bk bc k_q
          replace bw := bst bc bw
          clear bc eY eg
          refine wpAnyH_ready (rs := [3]) (by kernel_rfl) (by simp) ?_
          refine (AllReadyH.cons rfl (fun K hK => ?_) AllReadyH.nil)
          go_simp
          refine (common_some ⟨a, b, c, d⟩ s t HC.out _).mono ?_
          rintro e X8 ⟨rfl, bc⟩
          refine hK.out _ _ ⟨ck bc hHeld.1, ck bc hHeld.2.1, ck bc hHeld.2.2.1, ck bc hHeld.2.2.2.1, ck bc hHeld.2.2.2.2.1, ck bc hHeld.2.2.2.2.2.1, ck bc hHeld.2.2.2.2.2.2.1, ck bc hHeld.2.2.2.2.2.2.2⟩ (fun hHeld => ?_)
          clear hK K
          (try simp only [List.setIfInBounds_toArray, List.set_cons_zero, List.set_cons_succ])
          replace k_r := bk bc k_r
          replace k_s := bk bc k_s
          replace k_q := bk bc k_q
          replace k_n14 := bk bc k_n14
          replace bw := bst bc bw
          clear bc
          refine takx (i := 4) (D := 28) (v := .tuple #[.agg #[.int .i64 t.a, .int .i64 t.b, .int .i64 t.c, .int .i64 t.d], .bool true]) rfl rfl (by kernel_rfl) (by kernel_rfl) (by kernel_rfl) (fun _ _ _ h => h) (Or.inl ⟨by rfl, fun W hSw => by (try dsimp only at hSw); go_simp⟩) (by assumption) ?_
          (try simp only [List.setIfInBounds_toArray, List.set_cons_zero, List.set_cons_succ])
          refine takx (i := 5) (D := 33) (v := .agg #[.int .i64 t.a, .int .i64 t.b, .int .i64 t.c, .int .i64 t.d]) rfl rfl (by kernel_rfl) (by kernel_rfl) (by kernel_rfl) (fun _ _ _ h => h) (Or.inl ⟨by rfl, fun W hSw => by (try dsimp only at hSw); go_simp⟩) (by assumption) ?_
          (try simp only [List.setIfInBounds_toArray, List.set_cons_zero, List.set_cons_succ])
          refine takx (i := 6) (D := 34) (v := .bool true) rfl rfl (by kernel_rfl) (by kernel_rfl) (by kernel_rfl) (fun _ _ _ h => h) (Or.inl ⟨by rfl, fun W hSw => by (try dsimp only at hSw); go_simp⟩) (by assumption) ?_
          (try simp only [List.setIfInBounds_toArray, List.set_cons_zero, List.set_cons_succ])
          refine wpAnyH_ready (rs := [8]) (by kernel_rfl) (by simp) ?_
          refine (AllReadyH.cons rfl (fun K hK => ?_) AllReadyH.nil)
          have qq := q4c k_n14
          go_simp
          clear qq
          refine hK.out _ _ ⟨(cks ne_q_n14 (cks ne_q_n14 (cks ne_q_n14 (cks ne_q_n14 hHeld.1)))), (cks ne_q_n14 (cks ne_q_n14 (cks ne_q_n14 (cks ne_q_n14 hHeld.2.1)))), (cks ne_q_n14 (cks ne_q_n14 (cks ne_q_n14 (cks ne_q_n14 hHeld.2.2.1)))), (cks ne_q_n14 (cks ne_q_n14 (cks ne_q_n14 (cks ne_q_n14 hHeld.2.2.2.1)))), (cks ne_s_n14 (cks ne_s_n14 (cks ne_s_n14 (cks ne_s_n14 hHeld.2.2.2.2.1)))), (cks ne_s_n14 (cks ne_s_n14 (cks ne_s_n14 (cks ne_s_n14 hHeld.2.2.2.2.2.1)))), (cks ne_s_n14 (cks ne_s_n14 (cks ne_s_n14 (cks ne_s_n14 hHeld.2.2.2.2.2.2.1)))), (cks ne_s_n14 (cks ne_s_n14 (cks ne_s_n14 (cks ne_s_n14 hHeld.2.2.2.2.2.2.2))))⟩ (fun hHeld => ?_)
          clear hK K
          (try simp only [List.setIfInBounds_toArray, List.set_cons_zero, List.set_cons_succ])
          obtain ⟨X9, eY⟩ : ∃ Y, Y = ((((X8.setCell ⟨g7, 0, none⟩ (.int .i64 t.a)).setCell ⟨g7, 1, none⟩ (.int .i64 t.b)).setCell ⟨g7, 2, none⟩ (.int .i64 t.c)).setCell ⟨g7, 3, none⟩ (.int .i64 t.d)) := ⟨_, rfl⟩
          rw [← eY] at hHeld ⊢
          replace k_r : X9.heap[w.heap.size]? = some (.cells #[.int .i64 a, .int .i64 b, .int .i64 c, .int .i64 d] 23 (0, 0)) := by rw [eY]; exact (bks ne_r_n14 (bks ne_r_n14 (bks ne_r_n14 (bks ne_r_n14 k_r))))
          replace k_s : X9.heap[w.heap.size + 1]? = some (.cells #[.int .i64 s.a, .int .i64 s.b, .int .i64 s.c, .int .i64 s.d] 23 (0, 0)) := by rw [eY]; exact (bks ne_s_n14 (bks ne_s_n14 (bks ne_s_n14 (bks ne_s_n14 k_s))))
          replace k_q : X9.heap[g_q]? = some (.cells #[.int .i64 a, .int .i64 b, .int .i64 c, .int .i64 d] 26 (0, 0)) := by rw [eY]; exact (bks ne_q_n14 (bks ne_q_n14 (bks ne_q_n14 (bks ne_q_n14 k_q))))
          replace bw : Below w.heap.size w X9 := by rw [eY]; exact (bss lo_n14 (bss lo_n14 (bss lo_n14 (bss lo_n14 bw))))
          replace k_n14 : X9.heap[g7]? = some (.cells #[.int .i64 t.a, .int .i64 t.b, .int .i64 t.c, .int .i64 t.d] 26 (0, 0)) := by rw [eY]; exact q4s k_n14
          clear eY
          refine takx (i := 9) (D := 15) (v := .bool true) rfl rfl (by kernel_rfl) (by kernel_rfl) (by kernel_rfl) (fun _ _ _ h => h) (Or.inl ⟨by rfl, fun W hSw => by (try dsimp only at hSw); go_simp⟩) (by assumption) ?_
          (try simp only [List.setIfInBounds_toArray, List.set_cons_zero, List.set_cons_succ])
          refine wpAnyH_done (by kernel_rfl) ?_ _
          go_wp2_with fail
          go_meet
          exact ⟨_, rfl, rfl, k_n14, k_r, k_s, k_q, bw⟩
      · go_simp
        refine hK.out _ _ ⟨cka hHeld.1, cka hHeld.2.1, cka hHeld.2.2.1, cka hHeld.2.2.2.1, cka hHeld.2.2.2.2.1, cka hHeld.2.2.2.2.2.1, cka hHeld.2.2.2.2.2.2.1, cka hHeld.2.2.2.2.2.2.2⟩ (fun hHeld => ?_)
        clear hK K
        (try simp only [List.setIfInBounds_toArray, List.set_cons_zero, List.set_cons_succ])
        obtain ⟨X10, g10, eY, eg⟩ : ∃ Y g, Y = X2.alloc (.cells #[.int .i64 0, .int .i64 0, .int .i64 0, .int .i64 0] 26) ∧ g = X2.heap.size := ⟨_, _, rfl, rfl⟩
        rw [← eY, ← eg]
        rw [← eY] at hHeld
        have bc : Below X2.heap.size X2 X10 := by rw [eY]; exact (Below.refl _ _).alloc (Nat.le_refl _) _
        have k_n14 : X10.heap[g10]? = some (.cells #[.int .i64 0, .int .i64 0, .int .i64 0, .int .i64 0] 26 (0, 0)) := by rw [eY, eg]; exact heap_alloc_new X2 _
        have lo_n14 : w.heap.size ≤ g10 := by rw [eg]; exact bw.size
        have ne_r_n14 : ¬ w.heap.size = g10 := ne_new k_r eg
        have ne_s_n14 : ¬ w.heap.size + 1 = g10 := ne_new k_s eg
        have ne_q_n14 : ¬ g_q = g10 := ne_new k_q eg
        replace k_r := bk bc k_r
        replace k_s := bk bc k_s
        replace k_q := bk bc k_q
        replace bw := bst bc bw
        clear bc eY eg
        refine wpAnyH_ready (rs := [2]) (by kernel_rfl) (by simp) ?_
        refine (AllReadyH.cons rfl (fun K hK => ?_) AllReadyH.nil)
        go_simp
        refine (toRect4 s.a s.b s.c s.d _).mono ?_
        rintro e X11 ⟨rfl, bc⟩
        refine hK.out _ _ ⟨ck bc hHeld.1, ck bc hHeld.2.1, ck bc hHeld.2.2.1, ck bc hHeld.2.2.2.1, ck bc hHeld.2.2.2.2.1, ck bc hHeld.2.2.2.2.2.1, ck bc hHeld.2.2.2.2.2.2.1, ck bc hHeld.2.2.2.2.2.2.2⟩ (fun hHeld => ?_)
        clear hK K
        (try simp only [List.setIfInBounds_toArray, List.set_cons_zero, List.set_cons_succ])
        replace k_r := bk bc k_r
        replace k_s := bk bc k_s
        replace k_q := bk bc k_q
        replace k_n14 := bk bc k_n14
        replace bw := bst bc bw
        clear bc
        refine wpAnyH_ready (rs := [3]) (by kernel_rfl) (by simp) ?_
        refine (AllReadyH.cons rfl (fun K hK => ?_) AllReadyH.nil)
        go_simp
        refine (common_some ⟨a, b, c, d⟩ s t HC.out _).mono ?_
        rintro e X12 ⟨rfl, bc⟩
        refine hK.out _ _ ⟨ck bc hHeld.1, ck bc hHeld.2.1, ck bc hHeld.2.2.1, ck bc hHeld.2.2.2.1, ck bc hHeld.2.2.2.2.1, ck bc hHeld.2.2.2.2.2.1, ck bc hHeld.2.2.2.2.2.2.1, ck bc hHeld.2.2.2.2.2.2.2⟩ (fun hHeld => ?_)
        clear hK K
        (try simp only [List.setIfInBounds_toArray, List.set_cons_zero, List.set_cons_succ])
        replace k_r := bk bc k_r
        replace k_s := bk bc k_s
        replace k_q := bk bc k_q
        replace k_n14 := bk bc k_n14
        replace bw := bst bc bw
        clear bc
        refine takx (i := 4) (D := 28) (v := .tuple #[.agg #[.int .i64 t.a, .int .i64 t.b, .int .i64 t.c, .int .i64 t.d], .bool true]) rfl rfl (by kernel_rfl) (by kernel_rfl) (by kernel_rfl) (fun _ _ _ h => h) (Or.inl ⟨by rfl, fun W hSw => by (try dsimp only at hSw); go_simp⟩) (by assumption) ?_
        (try simp only [List.setIfInBounds_toArray, List.set_cons_zero, List.set_cons_succ])
        refine takx (i := 5) (D := 33) (v := .agg #[.int .i64 t.a, .int .i64 t.b, .int .i64 t.c, .int .i64 t.d]) rfl rfl (by kernel_rfl) (by kernel_rfl) (by kernel_rfl) (fun _ _ _ h => h) (Or.inl ⟨by rfl, fun W hSw => by (try dsimp only at hSw); go_simp⟩) (by assumption) ?_
        (try simp only [List.setIfInBounds_toArray, List.set_cons_zero, List.set_cons_succ])
        refine takx (i := 6) (D := 34) (v := .bool true) rfl rfl (by kernel_rfl) (by kernel_rfl) (by kernel_rfl) (fun _ _ _ h => h) (Or.inl ⟨by rfl, fun W hSw => by (try dsimp only at hSw); go_simp⟩) (by assumption) ?_
        (try simp only [List.setIfInBounds_toArray, List.set_cons_zero, List.set_cons_succ])
        refine wpAnyH_ready (rs := [8]) (by kernel_rfl) (by simp) ?_
        refine (AllReadyH.cons rfl (fun K hK => ?_) AllReadyH.nil)
        have qq := q4c k_n14
        go_simp
        clear qq
        refine hK.out _ _ ⟨(cks ne_q_n14 (cks ne_q_n14 (cks ne_q_n14 (cks ne_q_n14 hHeld.1)))), (cks ne_q_n14 (cks ne_q_n14 (cks ne_q_n14 (cks ne_q_n14 hHeld.2.1)))), (cks ne_q_n14 (cks ne_q_n14 (cks ne_q_n14 (cks ne_q_n14 hHeld.2.2.1)))), (cks ne_q_n14 (cks ne_q_n14 (cks ne_q_n14 (cks ne_q_n14 hHeld.2.2.2.1)))), (cks ne_s_n14 (cks ne_s_n14 (cks ne_s_n14 (cks ne_s_n14 hHeld.2.2.2.2.1)))), (cks ne_s_n14 (cks ne_s_n14 (cks ne_s_n14 (cks ne_s_n14 hHeld.2.2.2.2.2.1)))), (cks ne_s_n14 (cks ne_s_n14 (cks ne_s_n14 (cks ne_s_n14 hHeld.2.2.2.2.2.2.1)))), (cks ne_s_n14 (cks ne_s_n14 (cks ne_s_n14 (cks ne_s_n14 hHeld.2.2.2.2.2.2.2))))⟩ (fun hHeld => ?_)
        clear hK K
        (try simp only [List.setIfInBounds_toArray, List.set_cons_zero, List.set_cons_succ])
        obtain ⟨X13, eY⟩ : ∃ Y, Y = ((((X12.setCell ⟨g10, 0, none⟩ (.int .i64 t.a)).setCell ⟨g10, 1, none⟩ (.int .i64 t.b)).setCell ⟨g10, 2, none⟩ (.int .i64 t.c)).setCell ⟨g10, 3, none⟩ (.int .i64 t.d)) := ⟨_, rfl⟩
        rw [← eY] at hHeld ⊢
        replace k_r : X13.heap[w.heap.size]? = some (.cells #[.int .i64 a, .int .i64 b, .int .i64 c, .int .i64 d] 23 (0, 0)) := by rw [eY]; exact (bks ne_r_n14 (bks ne_r_n14 (bks ne_r_n14 (bks ne_r_n14 k_r))))
        replace k_s : X13.heap[w.heap.size + 1]? = some (.cells #[.int .i64 s.a, .int .i64 s.b, .int .i64 s.c, .int .i64 s.d] 23 (0, 0)) := by rw [eY]; exact (bks ne_s_n14 (bks ne_s_n14 (bks ne_s_n14 (bks ne_s_n14 k_s))))
        replace k_q : X13.heap[g_q]? = some (.cells #[.int .i64 a, .int .i64 b, .int .i64 c, .int .i64 d] 26 (0, 0)) := by rw [eY]; exact (bks ne_q_n14 (bks ne_q_n14 (bks ne_q_n14 (bks ne_q_n14 k_q))))
        replace bw : Below w.heap.size w X13 := by rw [eY]; exact (bss lo_n14 (bss lo_n14 (bss lo_n14 (bss lo_n14 bw))))
        replace k_n14 : X13.heap[g10]? = some (.cells #[.int .i64 t.a, .int .i64 t.b, .int .i64 t.c, .int .i64 t.d] 26 (0, 0)) := by rw [eY]; exact q4s k_n14
        clear eY
        refine takx (i := 9) (D := 15) (v := .bool true) rfl rfl (by kernel_rfl) (by kernel_rfl) (by kernel_rfl) (fun _ _ _ h => h) (Or.inl ⟨by rfl, fun W hSw => by (try dsimp only at hSw); go_simp⟩) (by assumption) ?_
        (try simp only [List.setIfInBounds_toArray, List.set_cons_zero, List.set_cons_succ])
        refine wpAnyH_done (by kernel_rfl) ?_ _
        go_wp2_with fail
        go_meet
        exact ⟨_, rfl, rfl, k_n14, k_r, k_s, k_q, bw⟩
    case rest =>
      clear k_r k_s k_q bw
      obtain ⟨g_both, rfl, rfl, k_both, k_r, k_s, k_q, BW⟩ := hcut
      have bw := BW.out
      clear BW
      have q_r := q4c k_r
      have q_s := q4c k_s
      have q_q := q4c k_q
      have q_both := q4c k_both
      go_wp2_with fail
      refine (fine_yes a b c d HF.out _).mono ?_
      rintro e Y15 ⟨rfl, bc⟩
      clear q_r q_s q_q q_both
      replace k_r := bk bc k_r
      replace k_s := bk bc k_s
      replace k_q := bk bc k_q
      replace k_both := bk bc k_both
      replace bw := bst bc bw
      clear bc
      have q_r := q4c k_r
      have q_s := q4c k_s
      have q_q := q4c k_q
      have q_both := q4c k_both
      go_wp2_with fail
      refine (has_yes t.a t.b t.c t.d x y HI.out _).mono ?_
      rintro e Y16 ⟨rfl, bc⟩
      clear q_r q_s q_q q_both
      replace k_r := bk bc k_r
      replace k_s := bk bc k_s
      replace k_q := bk bc k_q
      replace k_both := bk bc k_both
      replace bw := bst bc bw
      clear bc
      have q_r := q4c k_r
      have q_s := q4c k_s
      have q_q := q4c k_q
      have q_both := q4c k_both
      go_wp2_with fail
      refine (toRect4 s.a s.b s.c s.d _).mono ?_
      rintro e Y17 ⟨rfl, bc⟩
      clear q_r q_s q_q q_both
      replace k_r := bk bc k_r
      replace k_s := bk bc k_s
      replace k_q := bk bc k_q
      replace k_both := bk bc k_both
      replace bw := bst bc bw
      clear bc
      have q_r := q4c k_r
      have q_s := q4c k_s
      have q_q := q4c k_q
      have q_both := q4c k_both
      go_upto_region 6 with fail
      clear q_r q_s q_q q_both
      obtain ⟨Y18, g_part, g_whole, eY, e1, e2⟩ : ∃ Y g h, Y = (Y17.alloc (.cells #[.int .i64 4, .int .i64 0, .int .i64 0, .int .i64 0, .int .i64 0, .int .i64 0, .int .i64 0, .int .i64 s.a, .int .i64 s.b, .int .i64 s.c, .int .i64 s.d] 62)).alloc (.cells #[.int .i64 5, .int .i64 0, .int .i64 0, .int .i64 0, .int .i64 0, .int .i64 0, .int .i64 0, .int .i64 0, .int .i64 0, .int .i64 0, .int .i64 0] 62) ∧ g = Y17.heap.size ∧ h = Y17.heap.size + 1 := ⟨_, _, _, rfl, rfl, rfl⟩
      rw [← eY, ← e2, ← e1]
      have bc : Below Y17.heap.size Y17 Y18 := by rw [eY]; exact bsa (bsa (Below.refl _ _))
      have k_part : Y18.heap[g_part]? = some (.cells #[.int .i64 4, .int .i64 0, .int .i64 0, .int .i64 0, .int .i64 0, .int .i64 0, .int .i64 0, .int .i64 s.a, .int .i64 s.b, .int .i64 s.c, .int .i64 s.d] 62 (0, 0)) := by rw [eY, e1]; exact bka (heap_alloc_new Y17 _)
      have k_whole : Y18.heap[g_whole]? = some (.cells #[.int .i64 5, .int .i64 0, .int .i64 0, .int .i64 0, .int .i64 0, .int .i64 0, .int .i64 0, .int .i64 0, .int .i64 0, .int .i64 0, .int .i64 0] 62 (0, 0)) := by rw [eY, e2]; exact heap_new2 Y17 _ _
      replace k_r := bk bc k_r
      replace k_s := bk bc k_s
      replace k_q := bk bc k_q
      replace k_both := bk bc k_both
      replace bw := bst bc bw
      clear bc eY e1 e2
      have q_r := q4c k_r
      have q_s := q4c k_s
      have q_q := q4c k_q
      have q_both := q4c k_both
      have q_part := q11c k_part
      have q_whole := q11c k_whole
      go_upto_region 7 with fail
      clear q_r q_s q_q q_both q_part q_whole
      obtain ⟨Y19, g_read, eY, eg⟩ : ∃ Y g, Y = Y18.alloc (.cells #[.int .i64 2, .int .i64 x, .int .i64 y, .int .i64 0, .int .i64 0, .int .i64 0, .int .i64 0, .int .i64 0, .int .i64 0, .int .i64 0, .int .i64 0] 62) ∧ g = Y18.heap.size := ⟨_, _, rfl, rfl⟩
      rw [← eY, ← eg]
      have bc : Below Y18.heap.size Y18 Y19 := by rw [eY]; exact (Below.refl _ _).alloc (Nat.le_refl _) _
      have k_read : Y19.heap[g_read]? = some (.cells #[.int .i64 2, .int .i64 x, .int .i64 y, .int .i64 0, .int .i64 0, .int .i64 0, .int .i64 0, .int .i64 0, .int .i64 0, .int .i64 0, .int .i64 0] 62 (0, 0)) := by rw [eY, eg]; exact heap_alloc_new Y18 _
      replace k_r := bk bc k_r
      replace k_s := bk bc k_s
      replace k_q := bk bc k_q
      replace k_both := bk bc k_both
      replace k_part := bk bc k_part
      replace k_whole := bk bc k_whole
      replace bw := bst bc bw
      clear bc eY eg
      have q_r := q4c k_r
      have q_s := q4c k_s
      have q_q := q4c k_q
      have q_both := q4c k_both
      have q_part := q11c k_part
      have q_whole := q11c k_whole
      have q_read := q11c k_read
      go_upto_region 8 with fail
      clear q_r q_s q_q q_both q_part q_whole q_read
      obtain ⟨Y20, g_write, eY, eg⟩ : ∃ Y g, Y = Y19.alloc (.cells #[.int .i64 1, .int .i64 x, .int .i64 y, .int .i64 z, .int .i64 0, .int .i64 0, .int .i64 0, .int .i64 0, .int .i64 0, .int .i64 0, .int .i64 0] 62) ∧ g = Y19.heap.size := ⟨_, _, rfl, rfl⟩
      rw [← eY, ← eg]
      have bc : Below Y19.heap.size Y19 Y20 := by rw [eY]; exact (Below.refl _ _).alloc (Nat.le_refl _) _
      have k_write : Y20.heap[g_write]? = some (.cells #[.int .i64 1, .int .i64 x, .int .i64 y, .int .i64 z, .int .i64 0, .int .i64 0, .int .i64 0, .int .i64 0, .int .i64 0, .int .i64 0, .int .i64 0] 62 (0, 0)) := by rw [eY, eg]; exact heap_alloc_new Y19 _
      replace k_r := bk bc k_r
      replace k_s := bk bc k_s
      replace k_q := bk bc k_q
      replace k_both := bk bc k_both
      replace k_part := bk bc k_part
      replace k_whole := bk bc k_whole
      replace k_read := bk bc k_read
      replace bw := bst bc bw
      clear bc eY eg
      have q_r := q4c k_r
      have q_s := q4c k_s
      have q_q := q4c k_q
      have q_both := q4c k_both
      have q_part := q11c k_part
      have q_whole := q11c k_whole
      have q_read := q11c k_read
      have q_write := q11c k_write
      go_wp2_with fail
      refine ((grayRun_any a b c d N h3 h4 h5 h6 HN.out n cp Z zs 4 4 (some ⟨_, 0, none⟩) [⟨4, 0, 0, ⟨0, 0, 0, 0⟩, s⟩, ⟨1, x, y, ⟨z, 0, 0, 0⟩, ⟨0, 0, 0, 0⟩⟩, ⟨5, 0, 0, ⟨0, 0, 0, 0⟩, ⟨0, 0, 0, 0⟩⟩, ⟨2, x, y, ⟨0, 0, 0, 0⟩, ⟨0, 0, 0, 0⟩⟩] _ (by have b1 := bsa (o := .cells #[.int .i64 4, .int .i64 0, .int .i64 0, .int .i64 0, .int .i64 0, .int .i64 0, .int .i64 0, .int .i64 s.a, .int .i64 s.b, .int .i64 s.c, .int .i64 s.d, .int .i64 1, .int .i64 x, .int .i64 y, .int .i64 z, .int .i64 0, .int .i64 0, .int .i64 0, .int .i64 0, .int .i64 0, .int .i64 0, .int .i64 0, .int .i64 5, .int .i64 0, .int .i64 0, .int .i64 0, .int .i64 0, .int .i64 0, .int .i64 0, .int .i64 0, .int .i64 0, .int .i64 0, .int .i64 0, .int .i64 2, .int .i64 x, .int .i64 y, .int .i64 0, .int .i64 0, .int .i64 0, .int .i64 0, .int .i64 0, .int .i64 0, .int .i64 0, .int .i64 0] 62) bw; exact (HR.out.below b1).more b1.size) (RdSteps.of_block (ss := [⟨4, 0, 0, ⟨0, 0, 0, 0⟩, s⟩, ⟨1, x, y, ⟨z, 0, 0, 0⟩, ⟨0, 0, 0, 0⟩⟩, ⟨5, 0, 0, ⟨0, 0, 0, 0⟩, ⟨0, 0, 0, 0⟩⟩, ⟨2, x, y, ⟨0, 0, 0, 0⟩, ⟨0, 0, 0, 0⟩⟩]) (m := 4) (heap_alloc_new _ _) rfl rfl (by decide) OK1.out)).mono (fun _ _ h => h.lite (k := 1) (cs := [z % 256]) (bs := wrAt (byt N zs) a b c d x y (z % 256)) E1.out.1 E1.out.2 rfl)).mono ?_
      rintro e Y21 ⟨A1f, c1f, A2f, n2f, c2f, A3f, c3f, rfl, raf, rbf, laf, lbf, bc⟩
      clear q_r q_s q_q q_both q_part q_whole q_read q_write
      replace bc := bst bc (bsa (Below.refl _ _))
      replace k_r := bk bc k_r
      replace k_s := bk bc k_s
      replace k_q := bk bc k_q
      replace k_both := bk bc k_both
      replace k_part := bk bc k_part
      replace k_whole := bk bc k_whole
      replace k_read := bk bc k_read
      replace k_write := bk bc k_write
      replace bw := bst bc bw
      (try replace raf := (raf.below bc).more bc.size)
      (try replace rbf := (rbf.below bc).more bc.size)
      (try replace ras := (ras.below bc).more bc.size)
      (try replace rbs := (rbs.below bc).more bc.size)
      clear bc
      have q_r := q4c k_r
      have q_s := q4c k_s
      have q_q := q4c k_q
      have q_both := q4c k_both
      have q_part := q11c k_part
      have q_whole := q11c k_whole
      have q_read := q11c k_read
      have q_write := q11c k_write
      go_upto_region 9 with fail
      clear q_r q_s q_q q_both q_part q_whole q_read q_write
      obtain ⟨Y22, g_p, eY, eg⟩ : ∃ Y g, Y = Y21.alloc (.cells #[.int .i64 a, .int .i64 b, .int .i64 c, .int .i64 d, .int .i64 (c - a), .slice A3f N c3f] 29) ∧ g = Y21.heap.size := ⟨_, _, rfl, rfl⟩
      rw [← eY, ← eg]
      have bc : Below Y21.heap.size Y21 Y22 := by rw [eY]; exact (Below.refl _ _).alloc (Nat.le_refl _) _
      have k_p : Y22.heap[g_p]? = some (.cells #[.int .i64 a, .int .i64 b, .int .i64 c, .int .i64 d, .int .i64 (c - a), .slice A3f N c3f] 29 (0, 0)) := by rw [eY, eg]; exact heap_alloc_new Y21 _
      replace k_r := bk bc k_r
      replace k_s := bk bc k_s
      replace k_q := bk bc k_q
      replace k_both := bk bc k_both
      replace k_part := bk bc k_part
      replace k_whole := bk bc k_whole
      replace k_read := bk bc k_read
      replace k_write := bk bc k_write
      replace bw := bst bc bw
      (try replace raf := (raf.below bc).more bc.size)
      (try replace rbf := (rbf.below bc).more bc.size)
      (try replace ras := (ras.below bc).more bc.size)
      (try replace rbs := (rbs.below bc).more bc.size)
      clear bc eY eg
      have q_r := q4c k_r
      have q_s := q4c k_s
      have q_q := q4c k_q
      have q_both := q4c k_both
      have q_part := q11c k_part
      have q_whole := q11c k_whole
      have q_read := q11c k_read
      have q_write := q11c k_write
      have q_p := q6c k_p
      go_wp2_with fail
      refine ((grayRun_any a b c d N h3 h4 h5 h6 HN.out n cp Z zs 3 3 (some ⟨_, 0, none⟩) [⟨1, x, y, ⟨z, 0, 0, 0⟩, ⟨0, 0, 0, 0⟩⟩, ⟨4, 0, 0, ⟨0, 0, 0, 0⟩, s⟩, ⟨2, x, y, ⟨0, 0, 0, 0⟩, ⟨0, 0, 0, 0⟩⟩] _ (by have b1 := bsa (o := .cells #[.int .i64 1, .int .i64 x, .int .i64 y, .int .i64 z, .int .i64 0, .int .i64 0, .int .i64 0, .int .i64 0, .int .i64 0, .int .i64 0, .int .i64 0, .int .i64 4, .int .i64 0, .int .i64 0, .int .i64 0, .int .i64 0, .int .i64 0, .int .i64 0, .int .i64 s.a, .int .i64 s.b, .int .i64 s.c, .int .i64 s.d, .int .i64 2, .int .i64 x, .int .i64 y, .int .i64 0, .int .i64 0, .int .i64 0, .int .i64 0, .int .i64 0, .int .i64 0, .int .i64 0, .int .i64 0] 62) bw; exact (HR.out.below b1).more b1.size) (RdSteps.of_block (ss := [⟨1, x, y, ⟨z, 0, 0, 0⟩, ⟨0, 0, 0, 0⟩⟩, ⟨4, 0, 0, ⟨0, 0, 0, 0⟩, s⟩, ⟨2, x, y, ⟨0, 0, 0, 0⟩, ⟨0, 0, 0, 0⟩⟩]) (m := 3) (heap_alloc_new _ _) rfl rfl (by decide) OK2.out)).mono (fun _ _ h => h.lite (k := 1) (cs := [z % 256]) (bs := wrAt (byt N zs) a b c d x y (z % 256)) E2.out.1 E2.out.2 rfl)).mono ?_
      rintro e Y23 ⟨A1s, c1s, A2s, n2s, c2s, A3s, c3s, rfl, ras, rbs, las, lbs, bc⟩
      clear q_r q_s q_q q_both q_part q_whole q_read q_write q_p
      replace bc := bst bc (bsa (Below.refl _ _))
      replace k_r := bk bc k_r
      replace k_s := bk bc k_s
      replace k_q := bk bc k_q
      replace k_both := bk bc k_both
      replace k_part := bk bc k_part
      replace k_whole := bk bc k_whole
      replace k_read := bk bc k_read
      replace k_write := bk bc k_write
      replace k_p := bk bc k_p
      replace bw := bst bc bw
      (try replace raf := (raf.below bc).more bc.size)
      (try replace rbf := (rbf.below bc).more bc.size)
      (try replace ras := (ras.below bc).more bc.size)
      (try replace rbs := (rbs.below bc).more bc.size)
      clear bc
      have q_r := q4c k_r
      have q_s := q4c k_s
      have q_q := q4c k_q
      have q_both := q4c k_both
      have q_part := q11c k_part
      have q_whole := q11c k_whole
      have q_read := q11c k_read
      have q_write := q11c k_write
      have q_p := q6c k_p
      go_upto_region 10 with fail
      clear q_r q_s q_q q_both q_part q_whole q_read q_write q_p
      obtain ⟨Y24, g_o, eY, eg⟩ : ∃ Y g, Y = Y23.alloc (.cells #[.int .i64 a, .int .i64 b, .int .i64 c, .int .i64 d, .int .i64 (c - a), .slice A3s N c3s] 29) ∧ g = Y23.heap.size := ⟨_, _, rfl, rfl⟩
      rw [← eY, ← eg]
      have bc : Below Y23.heap.size Y23 Y24 := by rw [eY]; exact (Below.refl _ _).alloc (Nat.le_refl _) _
      have k_o : Y24.heap[g_o]? = some (.cells #[.int .i64 a, .int .i64 b, .int .i64 c, .int .i64 d, .int .i64 (c - a), .slice A3s N c3s] 29 (0, 0)) := by rw [eY, eg]; exact heap_alloc_new Y23 _
      replace k_r := bk bc k_r
      replace k_s := bk bc k_s
      replace k_q := bk bc k_q
      replace k_both := bk bc k_both
      replace k_part := bk bc k_part
      replace k_whole := bk bc k_whole
      replace k_read := bk bc k_read
      replace k_write := bk bc k_write
      replace k_p := bk bc k_p
      replace bw := bst bc bw
      (try replace raf := (raf.below bc).more bc.size)
      (try replace rbf := (rbf.below bc).more bc.size)
      (try replace ras := (ras.below bc).more bc.size)
      (try replace rbs := (rbs.below bc).more bc.size)
      clear bc eY eg
      obtain ⟨bf, of, rfl, _, cf⟩ := raf.2.2.2 (by decide)
      obtain ⟨bs', os', rfl, _, cs'⟩ := ras.2.2.2 (by decide)
      have cf0 : Y24.cell? ⟨bf, of, none⟩ = some (.int .i64 (z % 256)) := cf 0 (by decide)
      have cs0 : Y24.cell? ⟨bs', os', none⟩ = some (.int .i64 (z % 256)) := cs' 0 (by decide)
      have hzz : ((z % 256) == (z % 256)) = true := by simp
      refine wp_region_held_drew (S := fun w' => w'.cell? ⟨g_q, 0, none⟩ = some (.int .i64 a) ∧ w'.cell? ⟨g_q, 1, none⟩ = some (.int .i64 b) ∧ w'.cell? ⟨g_q, 2, none⟩ = some (.int .i64 c) ∧ w'.cell? ⟨g_q, 3, none⟩ = some (.int .i64 d) ∧ w'.cell? ⟨g_p, 0, none⟩ = some (.int .i64 a) ∧ w'.cell? ⟨g_p, 1, none⟩ = some (.int .i64 b) ∧ w'.cell? ⟨g_p, 2, none⟩ = some (.int .i64 c) ∧ w'.cell? ⟨g_p, 3, none⟩ = some (.int .i64 d) ∧ w'.cell? ⟨g_p, 4, none⟩ = some (.int .i64 (c - a)) ∧ w'.cell? ⟨g_p, 5, none⟩ = some (.slice A3f N c3f) ∧ w'.cell? ⟨g_o, 0, none⟩ = some (.int .i64 a) ∧ w'.cell? ⟨g_o, 1, none⟩ = some (.int .i64 b) ∧ w'.cell? ⟨g_o, 2, none⟩ = some (.int .i64 c) ∧ w'.cell? ⟨g_o, 3, none⟩ = some (.int .i64 d) ∧ w'.cell? ⟨g_o, 4, none⟩ = some (.int .i64 (c - a)) ∧ w'.cell? ⟨g_o, 5, none⟩ = some (.slice A3s N c3s) ∧ w'.cell? ⟨bf, of, none⟩ = some (.int .i64 (z % 256)) ∧ w'.cell? ⟨bs', os', none⟩ = some (.int .i64 (z % 256))) (by kernel_rfl) ⟨(q4c k_q).1.1, (q4c k_q).1.2.1, (q4c k_q).1.2.2.1, (q4c k_q).1.2.2.2, (q6c k_p).1.1, (q6c k_p).1.2.1, (q6c k_p).1.2.2.1, (q6c k_p).1.2.2.2.1, (q6c k_p).1.2.2.2.2.1, (q6c k_p).1.2.2.2.2.2, (q6c k_o).1.1, (q6c k_o).1.2.1, (q6c k_o).1.2.2.1, (q6c k_o).1.2.2.2.1, (q6c k_o).1.2.2.2.2.1, (q6c k_o).1.2.2.2.2.2, (by assumption), (by assumption)⟩ ?_
      intro hHeld
      obtain ⟨X25, eX, bc⟩ : ∃ X, X = Y24.drew ∧ Below Y24.heap.size Y24 X := ⟨_, rfl, (Below.refl _ _).drew⟩
      rw [← eX] at hHeld ⊢
      replace k_r := bk bc k_r
      replace k_s := bk bc k_s
      replace k_q := bk bc k_q
      replace k_both := bk bc k_both
      replace k_part := bk bc k_part
      replace k_whole := bk bc k_whole
      replace k_read := bk bc k_read
      replace k_write := bk bc k_write
      replace k_p := bk bc k_p
      replace k_o := bk bc k_o
      replace bw := bst bc bw
      (try replace raf := (raf.below bc).more bc.size)
      (try replace rbf := (rbf.below bc).more bc.size)
      (try replace ras := (ras.below bc).more bc.size)
      (try replace rbs := (rbs.below bc).more bc.size)
      (try replace r9 := (r9.below bc).more bc.size)
      clear eX bc
      refine takx (i := 0) (D := 84) (v := .slice (some ⟨bf, of, none⟩) 1 c1f) rfl rfl (by kernel_rfl) (by kernel_rfl) (by kernel_rfl) (fun _ _ _ h => h) (Or.inl ⟨by rfl, fun W hSw => by (try dsimp only at hSw); go_simp⟩) (by assumption) ?_
      (try simp only [List.setIfInBounds_toArray, List.set_cons_zero, List.set_cons_succ])
      refine takx (i := 1) (D := 85) (v := .int .i64 1) rfl rfl (by kernel_rfl) (by kernel_rfl) (by kernel_rfl) (fun _ _ _ h => h) (Or.inl ⟨by rfl, fun W hSw => by (try dsimp only at hSw); go_simp⟩) (by assumption) ?_
      (try simp only [List.setIfInBounds_toArray, List.set_cons_zero, List.set_cons_succ])
      refine takx (i := 2) (D := 86) (v := .bool true) rfl rfl (by kernel_rfl) (by kernel_rfl) (by kernel_rfl) (fun _ _ _ h => h) (Or.inl ⟨by rfl, fun W hSw => by (try dsimp only at hSw); go_simp⟩) (by assumption) ?_
      (try simp only [List.setIfInBounds_toArray, List.set_cons_zero, List.set_cons_succ])
      refine takx (i := 3) (D := 87) (v := .bool true) rfl rfl (by kernel_rfl) (by kernel_rfl) (by kernel_rfl) (fun _ _ _ h => h) (Or.inl ⟨by rfl, fun W hSw => by (try dsimp only at hSw); go_simp⟩) (by assumption) ?_
      (try simp only [List.setIfInBounds_toArray, List.set_cons_zero, List.set_cons_succ])
      refine takx (i := 4) (D := 88) (v := .slice (some ⟨bf, of, none⟩) 1 c1f) rfl rfl (by kernel_rfl) (by kernel_rfl) (by kernel_rfl) (fun _ _ _ h => h) (Or.inl ⟨by rfl, fun W hSw => by (try dsimp only at hSw); go_simp⟩) (by assumption) ?_
      (try simp only [List.setIfInBounds_toArray, List.set_cons_zero, List.set_cons_succ])
      refine takx (i := 5) (D := 89) (v := .pointer (some ⟨bf, of, none⟩)) rfl rfl (by kernel_rfl) (by kernel_rfl) (by kernel_rfl) (fun _ _ _ h => h) (Or.inl ⟨by rfl, fun W hSw => by (try dsimp only at hSw); go_simp⟩) (by assumption) ?_
      (try simp only [List.setIfInBounds_toArray, List.set_cons_zero, List.set_cons_succ])
      refine takx (i := 6) (D := 90) (v := .int .i64 (z % 256)) rfl rfl (by kernel_rfl) (by kernel_rfl) (by kernel_rfl) (fun _ _ _ h => h) (Or.inl ⟨by rfl, fun W hSw => by (try dsimp only at hSw); go_simp⟩) (by assumption) ?_
      (try simp only [List.setIfInBounds_toArray, List.set_cons_zero, List.set_cons_succ])
      refine takx (i := 7) (D := 91) (v := .int .i64 z) rfl rfl (by kernel_rfl) (by kernel_rfl) (by kernel_rfl) (fun _ _ _ h => h) (Or.inl ⟨by rfl, fun W hSw => by (try dsimp only at hSw); go_simp⟩) (by assumption) ?_
      (try simp only [List.setIfInBounds_toArray, List.set_cons_zero, List.set_cons_succ])
      refine wpAnyH_ready (rs := [8]) (by kernel_rfl) (by simp) ?_
      refine (AllReadyH.cons rfl (fun K hK => ?_) AllReadyH.nil)
      go_simp
      refine (low_b z hz _).mono ?_
      rintro e X26 ⟨rfl, bc⟩
      refine hK.out _ _ ⟨ck bc hHeld.1, ck bc hHeld.2.1, ck bc hHeld.2.2.1, ck bc hHeld.2.2.2.1, ck bc hHeld.2.2.2.2.1, ck bc hHeld.2.2.2.2.2.1, ck bc hHeld.2.2.2.2.2.2.1, ck bc hHeld.2.2.2.2.2.2.2.1, ck bc hHeld.2.2.2.2.2.2.2.2.1, ck bc hHeld.2.2.2.2.2.2.2.2.2.1, ck bc hHeld.2.2.2.2.2.2.2.2.2.2.1, ck bc hHeld.2.2.2.2.2.2.2.2.2.2.2.1, ck bc hHeld.2.2.2.2.2.2.2.2.2.2.2.2.1, ck bc hHeld.2.2.2.2.2.2.2.2.2.2.2.2.2.1, ck bc hHeld.2.2.2.2.2.2.2.2.2.2.2.2.2.2.1, ck bc hHeld.2.2.2.2.2.2.2.2.2.2.2.2.2.2.2.1, ck bc hHeld.2.2.2.2.2.2.2.2.2.2.2.2.2.2.2.2.1, ck bc hHeld.2.2.2.2.2.2.2.2.2.2.2.2.2.2.2.2.2⟩ (fun hHeld => ?_)
      clear hK K
      (try simp only [List.setIfInBounds_toArray, List.set_cons_zero, List.set_cons_succ])
      replace k_r := bk bc k_r
      replace k_s := bk bc k_s
      replace k_q := bk bc k_q
      replace k_both := bk bc k_both
      replace k_part := bk bc k_part
      replace k_whole := bk bc k_whole
      replace k_read := bk bc k_read
      replace k_write := bk bc k_write
      replace k_p := bk bc k_p
      replace k_o := bk bc k_o
      replace bw := bst bc bw
      (try replace raf := (raf.below bc).more bc.size)
      (try replace rbf := (rbf.below bc).more bc.size)
      (try replace ras := (ras.below bc).more bc.size)
      (try replace rbs := (rbs.below bc).more bc.size)
      (try replace r9 := (r9.below bc).more bc.size)
      clear bc
      refine takx (i := 9) (D := 93) (v := .bool true) rfl rfl (by kernel_rfl) (by kernel_rfl) (by kernel_rfl) (fun _ _ _ h => h) (Or.inl ⟨by rfl, fun W hSw => by (try dsimp only at hSw); go_simp⟩) (by assumption) ?_
      (try simp only [List.setIfInBounds_toArray, List.set_cons_zero, List.set_cons_succ])
      refine takx (i := 10) (D := 94) (v := .bool true) rfl rfl (by kernel_rfl) (by kernel_rfl) (by kernel_rfl) (fun _ _ _ h => h) (Or.inl ⟨by rfl, fun W hSw => by (try dsimp only at hSw); go_simp⟩) (by assumption) ?_
      (try simp only [List.setIfInBounds_toArray, List.set_cons_zero, List.set_cons_succ])
      refine takx (i := 11) (D := 95) (v := .bool true) rfl rfl (by kernel_rfl) (by kernel_rfl) (by kernel_rfl) (fun _ _ _ h => h) (Or.inl ⟨by rfl, fun W hSw => by (try dsimp only at hSw); go_simp⟩) (by assumption) ?_
      (try simp only [List.setIfInBounds_toArray, List.set_cons_zero, List.set_cons_succ])
      refine takx (i := 12) (D := 96) (v := .slice (some ⟨bs', os', none⟩) 1 c1s) rfl rfl (by kernel_rfl) (by kernel_rfl) (by kernel_rfl) (fun _ _ _ h => h) (Or.inl ⟨by rfl, fun W hSw => by (try dsimp only at hSw); go_simp⟩) (by assumption) ?_
      (try simp only [List.setIfInBounds_toArray, List.set_cons_zero, List.set_cons_succ])
      refine takx (i := 13) (D := 97) (v := .int .i64 1) rfl rfl (by kernel_rfl) (by kernel_rfl) (by kernel_rfl) (fun _ _ _ h => h) (Or.inl ⟨by rfl, fun W hSw => by (try dsimp only at hSw); go_simp⟩) (by assumption) ?_
      (try simp only [List.setIfInBounds_toArray, List.set_cons_zero, List.set_cons_succ])
      refine takx (i := 14) (D := 98) (v := .bool true) rfl rfl (by kernel_rfl) (by kernel_rfl) (by kernel_rfl) (fun _ _ _ h => h) (Or.inl ⟨by rfl, fun W hSw => by (try dsimp only at hSw); go_simp⟩) (by assumption) ?_
      (try simp only [List.setIfInBounds_toArray, List.set_cons_zero, List.set_cons_succ])
      refine takx (i := 15) (D := 99) (v := .bool true) rfl rfl (by kernel_rfl) (by kernel_rfl) (by kernel_rfl) (fun _ _ _ h => h) (Or.inl ⟨by rfl, fun W hSw => by (try dsimp only at hSw); go_simp⟩) (by assumption) ?_
      (try simp only [List.setIfInBounds_toArray, List.set_cons_zero, List.set_cons_succ])
      refine takx (i := 16) (D := 100) (v := .bool true) rfl rfl (by kernel_rfl) (by kernel_rfl) (by kernel_rfl) (fun _ _ _ h => h) (Or.inl ⟨by rfl, fun W hSw => by (try dsimp only at hSw); go_simp⟩) (by assumption) ?_
      (try simp only [List.setIfInBounds_toArray, List.set_cons_zero, List.set_cons_succ])
      refine takx (i := 17) (D := 101) (v := .slice (some ⟨bs', os', none⟩) 1 c1s) rfl rfl (by kernel_rfl) (by kernel_rfl) (by kernel_rfl) (fun _ _ _ h => h) (Or.inl ⟨by rfl, fun W hSw => by (try dsimp only at hSw); go_simp⟩) (by assumption) ?_
      (try simp only [List.setIfInBounds_toArray, List.set_cons_zero, List.set_cons_succ])
      refine takx (i := 18) (D := 102) (v := .pointer (some ⟨bs', os', none⟩)) rfl rfl (by kernel_rfl) (by kernel_rfl) (by kernel_rfl) (fun _ _ _ h => h) (Or.inl ⟨by rfl, fun W hSw => by (try dsimp only at hSw); go_simp⟩) (by assumption) ?_
      (try simp only [List.setIfInBounds_toArray, List.set_cons_zero, List.set_cons_succ])
      refine takx (i := 19) (D := 103) (v := .int .i64 (z % 256)) rfl rfl (by kernel_rfl) (by kernel_rfl) (by kernel_rfl) (fun _ _ _ h => h) (Or.inl ⟨by rfl, fun W hSw => by (try dsimp only at hSw); go_simp⟩) (by assumption) ?_
      (try simp only [List.setIfInBounds_toArray, List.set_cons_zero, List.set_cons_succ])
      refine takx (i := 20) (D := 104) (v := .int .i64 z) rfl rfl (by kernel_rfl) (by kernel_rfl) (by kernel_rfl) (fun _ _ _ h => h) (Or.inl ⟨by rfl, fun W hSw => by (try dsimp only at hSw); go_simp⟩) (by assumption) ?_
      (try simp only [List.setIfInBounds_toArray, List.set_cons_zero, List.set_cons_succ])
      refine wpAnyH_ready (rs := [21]) (by kernel_rfl) (by simp) ?_
      refine (AllReadyH.cons rfl (fun K hK => ?_) AllReadyH.nil)
      go_simp
      refine (low_b z hz _).mono ?_
      rintro e X27 ⟨rfl, bc⟩
      refine hK.out _ _ ⟨ck bc hHeld.1, ck bc hHeld.2.1, ck bc hHeld.2.2.1, ck bc hHeld.2.2.2.1, ck bc hHeld.2.2.2.2.1, ck bc hHeld.2.2.2.2.2.1, ck bc hHeld.2.2.2.2.2.2.1, ck bc hHeld.2.2.2.2.2.2.2.1, ck bc hHeld.2.2.2.2.2.2.2.2.1, ck bc hHeld.2.2.2.2.2.2.2.2.2.1, ck bc hHeld.2.2.2.2.2.2.2.2.2.2.1, ck bc hHeld.2.2.2.2.2.2.2.2.2.2.2.1, ck bc hHeld.2.2.2.2.2.2.2.2.2.2.2.2.1, ck bc hHeld.2.2.2.2.2.2.2.2.2.2.2.2.2.1, ck bc hHeld.2.2.2.2.2.2.2.2.2.2.2.2.2.2.1, ck bc hHeld.2.2.2.2.2.2.2.2.2.2.2.2.2.2.2.1, ck bc hHeld.2.2.2.2.2.2.2.2.2.2.2.2.2.2.2.2.1, ck bc hHeld.2.2.2.2.2.2.2.2.2.2.2.2.2.2.2.2.2⟩ (fun hHeld => ?_)
      clear hK K
      (try simp only [List.setIfInBounds_toArray, List.set_cons_zero, List.set_cons_succ])
      replace k_r := bk bc k_r
      replace k_s := bk bc k_s
      replace k_q := bk bc k_q
      replace k_both := bk bc k_both
      replace k_part := bk bc k_part
      replace k_whole := bk bc k_whole
      replace k_read := bk bc k_read
      replace k_write := bk bc k_write
      replace k_p := bk bc k_p
      replace k_o := bk bc k_o
      replace bw := bst bc bw
      (try replace raf := (raf.below bc).more bc.size)
      (try replace rbf := (rbf.below bc).more bc.size)
      (try replace ras := (ras.below bc).more bc.size)
      (try replace rbs := (rbs.below bc).more bc.size)
      (try replace r9 := (r9.below bc).more bc.size)
      clear bc
      refine takx (i := 22) (D := 106) (v := .bool true) rfl rfl (by kernel_rfl) (by kernel_rfl) (by kernel_rfl) (fun _ _ _ h => h) (Or.inl ⟨by rfl, fun W hSw => by (try dsimp only at hSw); go_simp⟩) (by assumption) ?_
      (try simp only [List.setIfInBounds_toArray, List.set_cons_zero, List.set_cons_succ])
      refine takx (i := 23) (D := 107) (v := .bool true) rfl rfl (by kernel_rfl) (by kernel_rfl) (by kernel_rfl) (fun _ _ _ h => h) (Or.inl ⟨by rfl, fun W hSw => by (try dsimp only at hSw); go_simp⟩) (by assumption) ?_
      (try simp only [List.setIfInBounds_toArray, List.set_cons_zero, List.set_cons_succ])
      refine takx (i := 24) (D := 108) (v := .bool true) rfl rfl (by kernel_rfl) (by kernel_rfl) (by kernel_rfl) (fun _ _ _ h => h) (Or.inl ⟨by rfl, fun W hSw => by (try dsimp only at hSw); go_simp⟩) (by assumption) ?_
      (try simp only [List.setIfInBounds_toArray, List.set_cons_zero, List.set_cons_succ])
      refine takx (i := 25) (D := 109) (v := .agg #[.int .i64 a, .int .i64 b, .int .i64 c, .int .i64 d, .int .i64 (c - a), .slice A3f N c3f]) rfl rfl (by kernel_rfl) (by kernel_rfl) (by kernel_rfl) (fun _ _ _ h => h) (Or.inl ⟨by rfl, fun W hSw => by (try dsimp only at hSw); go_simp⟩) (by assumption) ?_
      (try simp only [List.setIfInBounds_toArray, List.set_cons_zero, List.set_cons_succ])
      refine takx (i := 26) (D := 110) (v := .agg #[.int .i64 a, .int .i64 b, .int .i64 c, .int .i64 d, .int .i64 (c - a), .slice A3s N c3s]) rfl rfl (by kernel_rfl) (by kernel_rfl) (by kernel_rfl) (fun _ _ _ h => h) (Or.inl ⟨by rfl, fun W hSw => by (try dsimp only at hSw); go_simp⟩) (by assumption) ?_
      (try simp only [List.setIfInBounds_toArray, List.set_cons_zero, List.set_cons_succ])
      refine wpAnyH_ready (rs := [27]) (by kernel_rfl) (by simp) ?_
      refine (AllReadyH.cons rfl (fun K hK => ?_) AllReadyH.nil)
      go_simp
      refine (samePic_true _ _ _ _ _ _ _ _ _ _ _ _ rbf rbs).mono ?_
      rintro e X28 ⟨rfl, bc⟩
      refine hK.out _ _ ⟨ck bc hHeld.1, ck bc hHeld.2.1, ck bc hHeld.2.2.1, ck bc hHeld.2.2.2.1, ck bc hHeld.2.2.2.2.1, ck bc hHeld.2.2.2.2.2.1, ck bc hHeld.2.2.2.2.2.2.1, ck bc hHeld.2.2.2.2.2.2.2.1, ck bc hHeld.2.2.2.2.2.2.2.2.1, ck bc hHeld.2.2.2.2.2.2.2.2.2.1, ck bc hHeld.2.2.2.2.2.2.2.2.2.2.1, ck bc hHeld.2.2.2.2.2.2.2.2.2.2.2.1, ck bc hHeld.2.2.2.2.2.2.2.2.2.2.2.2.1, ck bc hHeld.2.2.2.2.2.2.2.2.2.2.2.2.2.1, ck bc hHeld.2.2.2.2.2.2.2.2.2.2.2.2.2.2.1, ck bc hHeld.2.2.2.2.2.2.2.2.2.2.2.2.2.2.2.1, ck bc hHeld.2.2.2.2.2.2.2.2.2.2.2.2.2.2.2.2.1, ck bc hHeld.2.2.2.2.2.2.2.2.2.2.2.2.2.2.2.2.2⟩ (fun hHeld => ?_)
      clear hK K
      (try simp only [List.setIfInBounds_toArray, List.set_cons_zero, List.set_cons_succ])
      replace k_r := bk bc k_r
      replace k_s := bk bc k_s
      replace k_q := bk bc k_q
      replace k_both := bk bc k_both
      replace k_part := bk bc k_part
      replace k_whole := bk bc k_whole
      replace k_read := bk bc k_read
      replace k_write := bk bc k_write
      replace k_p := bk bc k_p
      replace k_o := bk bc k_o
      replace bw := bst bc bw
      (try replace raf := (raf.below bc).more bc.size)
      (try replace rbf := (rbf.below bc).more bc.size)
      (try replace ras := (ras.below bc).more bc.size)
      (try replace rbs := (rbs.below bc).more bc.size)
      (try replace r9 := (r9.below bc).more bc.size)
      clear bc
      refine takx (i := 28) (D := 112) (v := .bool true) rfl rfl (by kernel_rfl) (by kernel_rfl) (by kernel_rfl) (fun _ _ _ h => h) (Or.inl ⟨by rfl, fun W hSw => by (try dsimp only at hSw); go_simp⟩) (by assumption) ?_
      (try simp only [List.setIfInBounds_toArray, List.set_cons_zero, List.set_cons_succ])
      refine takx (i := 29) (D := 113) (v := .bool true) rfl rfl (by kernel_rfl) (by kernel_rfl) (by kernel_rfl) (fun _ _ _ h => h) (Or.inl ⟨by rfl, fun W hSw => by (try dsimp only at hSw); go_simp⟩) (by assumption) ?_
      (try simp only [List.setIfInBounds_toArray, List.set_cons_zero, List.set_cons_succ])
      refine takx (i := 30) (D := 114) (v := .agg #[.int .i64 a, .int .i64 b, .int .i64 c, .int .i64 d, .int .i64 (c - a), .slice A3f N c3f]) rfl rfl (by kernel_rfl) (by kernel_rfl) (by kernel_rfl) (fun _ _ _ h => h) (Or.inl ⟨by rfl, fun W hSw => by (try dsimp only at hSw); go_simp⟩) (by assumption) ?_
      (try simp only [List.setIfInBounds_toArray, List.set_cons_zero, List.set_cons_succ])
      refine takx (i := 31) (D := 115) (v := .agg #[.int .i64 a, .int .i64 b, .int .i64 c, .int .i64 d]) rfl rfl (by kernel_rfl) (by kernel_rfl) (by kernel_rfl) (fun _ _ _ h => h) (Or.inl ⟨by rfl, fun W hSw => by (try dsimp only at hSw); go_simp⟩) (by assumption) ?_
      (try simp only [List.setIfInBounds_toArray, List.set_cons_zero, List.set_cons_succ])
      refine takx (i := 32) (D := 116) (v := .slice Z n cp) rfl rfl (by kernel_rfl) (by kernel_rfl) (by kernel_rfl) (fun _ _ _ h => h) (Or.inl ⟨by rfl, fun W hSw => by (try dsimp only at hSw); go_simp⟩) (by assumption) ?_
      (try simp only [List.setIfInBounds_toArray, List.set_cons_zero, List.set_cons_succ])
      refine takx (i := 33) (D := 117) (v := .int .i64 x) rfl rfl (by kernel_rfl) (by kernel_rfl) (by kernel_rfl) (fun _ _ _ h => h) (Or.inl ⟨by rfl, fun W hSw => by (try dsimp only at hSw); go_simp⟩) (by assumption) ?_
      (try simp only [List.setIfInBounds_toArray, List.set_cons_zero, List.set_cons_succ])
      refine takx (i := 34) (D := 118) (v := .int .i64 y) rfl rfl (by kernel_rfl) (by kernel_rfl) (by kernel_rfl) (fun _ _ _ h => h) (Or.inl ⟨by rfl, fun W hSw => by (try dsimp only at hSw); go_simp⟩) (by assumption) ?_
      (try simp only [List.setIfInBounds_toArray, List.set_cons_zero, List.set_cons_succ])
      refine takx (i := 35) (D := 119) (v := .int .i64 z) rfl rfl (by kernel_rfl) (by kernel_rfl) (by kernel_rfl) (fun _ _ _ h => h) (Or.inl ⟨by rfl, fun W hSw => by (try dsimp only at hSw); go_simp⟩) (by assumption) ?_
      (try simp only [List.setIfInBounds_toArray, List.set_cons_zero, List.set_cons_succ])
      refine wpAnyH_ready (rs := [36]) (by kernel_rfl) (by simp) ?_
      refine (AllReadyH.cons rfl (fun K hK => ?_) AllReadyH.nil)
      go_simp
      refine (grayWrite_any a b c d N h3 h4 h5 h6 HN.out n cp Z (zs) x y z _ ((HR.out.below bw).more bw.size)).mono ?_
      rintro e X29 ⟨A9, cp9, rfl, r9, lo9, bc⟩
      refine hK.out _ _ ⟨ck bc hHeld.1, ck bc hHeld.2.1, ck bc hHeld.2.2.1, ck bc hHeld.2.2.2.1, ck bc hHeld.2.2.2.2.1, ck bc hHeld.2.2.2.2.2.1, ck bc hHeld.2.2.2.2.2.2.1, ck bc hHeld.2.2.2.2.2.2.2.1, ck bc hHeld.2.2.2.2.2.2.2.2.1, ck bc hHeld.2.2.2.2.2.2.2.2.2.1, ck bc hHeld.2.2.2.2.2.2.2.2.2.2.1, ck bc hHeld.2.2.2.2.2.2.2.2.2.2.2.1, ck bc hHeld.2.2.2.2.2.2.2.2.2.2.2.2.1, ck bc hHeld.2.2.2.2.2.2.2.2.2.2.2.2.2.1, ck bc hHeld.2.2.2.2.2.2.2.2.2.2.2.2.2.2.1, ck bc hHeld.2.2.2.2.2.2.2.2.2.2.2.2.2.2.2.1, ck bc hHeld.2.2.2.2.2.2.2.2.2.2.2.2.2.2.2.2.1, ck bc hHeld.2.2.2.2.2.2.2.2.2.2.2.2.2.2.2.2.2⟩ (fun hHeld => ?_)
      clear hK K
      (try simp only [List.setIfInBounds_toArray, List.set_cons_zero, List.set_cons_succ])
      replace k_r := bk bc k_r
      replace k_s := bk bc k_s
      replace k_q := bk bc k_q
      replace k_both := bk bc k_both
      replace k_part := bk bc k_part
      replace k_whole := bk bc k_whole
      replace k_read := bk bc k_read
      replace k_write := bk bc k_write
      replace k_p := bk bc k_p
      replace k_o := bk bc k_o
      replace bw := bst bc bw
      (try replace raf := (raf.below bc).more bc.size)
      (try replace rbf := (rbf.below bc).more bc.size)
      (try replace ras := (ras.below bc).more bc.size)
      (try replace rbs := (rbs.below bc).more bc.size)
      (try replace r9 := (r9.below bc).more bc.size)
      clear bc
      refine wpAnyH_ready (rs := [37]) (by kernel_rfl) (by simp) ?_
      refine (AllReadyH.cons rfl (fun K hK => ?_) AllReadyH.nil)
      go_simp
      refine (samePic_true _ _ _ _ _ _ _ _ _ _ _ _ rbf r9).mono ?_
      rintro e X30 ⟨rfl, bc⟩
      refine hK.out _ _ ⟨ck bc hHeld.1, ck bc hHeld.2.1, ck bc hHeld.2.2.1, ck bc hHeld.2.2.2.1, ck bc hHeld.2.2.2.2.1, ck bc hHeld.2.2.2.2.2.1, ck bc hHeld.2.2.2.2.2.2.1, ck bc hHeld.2.2.2.2.2.2.2.1, ck bc hHeld.2.2.2.2.2.2.2.2.1, ck bc hHeld.2.2.2.2.2.2.2.2.2.1, ck bc hHeld.2.2.2.2.2.2.2.2.2.2.1, ck bc hHeld.2.2.2.2.2.2.2.2.2.2.2.1, ck bc hHeld.2.2.2.2.2.2.2.2.2.2.2.2.1, ck bc hHeld.2.2.2.2.2.2.2.2.2.2.2.2.2.1, ck bc hHeld.2.2.2.2.2.2.2.2.2.2.2.2.2.2.1, ck bc hHeld.2.2.2.2.2.2.2.2.2.2.2.2.2.2.2.1, ck bc hHeld.2.2.2.2.2.2.2.2.2.2.2.2.2.2.2.2.1, ck bc hHeld.2.2.2.2.2.2.2.2.2.2.2.2.2.2.2.2.2⟩ (fun hHeld => ?_)
      clear hK K
      (try simp only [List.setIfInBounds_toArray, List.set_cons_zero, List.set_cons_succ])
      replace k_r := bk bc k_r
      replace k_s := bk bc k_s
      replace k_q := bk bc k_q
      replace k_both := bk bc k_both
      replace k_part := bk bc k_part
      replace k_whole := bk bc k_whole
      replace k_read := bk bc k_read
      replace k_write := bk bc k_write
      replace k_p := bk bc k_p
      replace k_o := bk bc k_o
      replace bw := bst bc bw
      (try replace raf := (raf.below bc).more bc.size)
      (try replace rbf := (rbf.below bc).more bc.size)
      (try replace ras := (ras.below bc).more bc.size)
      (try replace rbs := (rbs.below bc).more bc.size)
      (try replace r9 := (r9.below bc).more bc.size)
      clear bc
      refine takx (i := 38) (D := 122) (v := .bool true) rfl rfl (by kernel_rfl) (by kernel_rfl) (by kernel_rfl) (fun _ _ _ h => h) (Or.inl ⟨by rfl, fun W hSw => by (try dsimp only at hSw); go_simp⟩) (by assumption) ?_
      (try simp only [List.setIfInBounds_toArray, List.set_cons_zero, List.set_cons_succ])
      refine takx (i := 39) (D := 12) (v := .bool true) rfl rfl (by kernel_rfl) (by kernel_rfl) (by kernel_rfl) (fun _ _ _ h => h) (Or.inl ⟨by rfl, fun W hSw => by (try dsimp only at hSw); go_simp⟩) (by assumption) ?_
      (try simp only [List.setIfInBounds_toArray, List.set_cons_zero, List.set_cons_succ])
      refine wpAnyH_done (by kernel_rfl) ?_ _
      clear hHeld
      go_wp2
      go_ret
      exact ⟨rfl, bw⟩

end Go.Proofs.Ytpijljokcoocpaa

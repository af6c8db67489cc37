/-
  The walk of the law FnGrayPartOfPart, a part of its cases. No condition.
-/
import Derived.Test.YtpijljokcoocpaaGH
import Derived.Test.YtpijljokcoocpaaR6
namespace Go.Proofs.Ytpijljokcoocpaa
open Go.ChangeShapes Go.WideShapes Go.ChangeAt Go.RowKit
set_option linter.unusedVariables false
set_option linter.unusedSimpArgs false

set_option maxRecDepth 100000 in
set_option maxHeartbeats 4000000 in
theorem fnGrayPartOfPart_n2 (w : World) (q : Q4) (hq : q.ok) (Z : Option Addr) (n cp : Nat) (zs : List Int) (hr : Rd w w.heap.size Z n zs) (s : Q4) (hs : s.ok) (u : Q4) (hu : u.ok) (x : Int) (hx : I64 x) (y : Int) (hy : I64 y) (hf : Fine q.a q.b q.c q.d) (p1 : Q4) (hc1 : com q s = some p1) (hc2 : com p1 u = none) :
    Calls Try.prog 19 #[q.val, .slice Z n cp, s.val, u.val, .int .i64 x, .int .i64 y] w fun e w' => e = .returned (.bool true) ∧ Below w.heap.size w w' := by
  obtain ⟨a, b, c, d⟩ := q
  obtain ⟨ha, hb, hc, hd⟩ := hq
  show Calls Try.prog 19 #[.agg #[.int .i64 a, .int .i64 b, .int .i64 c, .int .i64 d], .slice Z n cp, .agg #[.int .i64 s.a, .int .i64 s.b, .int .i64 s.c, .int .i64 s.d], .agg #[.int .i64 u.a, .int .i64 u.b, .int .i64 u.c, .int .i64 u.d], .int .i64 x, .int .i64 y] w _
  have hrs := rect_same a b c d
  have hrd := rect_diff a b c d
  have hp0 := fun st v => pfld0 a b c d st v
  have hp2 := fun st A n cp => pfld2 a b c d st A n cp
  have HR := Lib.hid hr
  clear hr
  obtain ⟨h3, h4, h5, h6, N, hN⟩ := fine_area hf
  have HF := Lib.hid hf
  have HN := Lib.hid hN
  clear hf hN
  have HC1 := Lib.hid hc1
  clear hc1
  have HC2 := Lib.hid hc2
  clear hc2
  go_enter Try.func19, Try.ntmps19
  go_wp2_with fail
  refine (toRect4 a b c d _).mono ?_
  rintro e w1 ⟨rfl, bc⟩
  have bw := bst bc (bsa (bsa (bsa (Below.refl _ _))))
  have k_r : w1.heap[w.heap.size]? = some (.cells #[.int .i64 a, .int .i64 b, .int .i64 c, .int .i64 d] 23 (0, 0)) := by have := bk bc (bka (bka (heap_alloc_new w _))); simpa using this
  have k_s : w1.heap[w.heap.size + 1]? = some (.cells #[.int .i64 s.a, .int .i64 s.b, .int .i64 s.c, .int .i64 s.d] 23 (0, 0)) := by have := bk bc (bka (heap_alloc_new (w.alloc (.cells #[.int .i64 a, .int .i64 b, .int .i64 c, .int .i64 d] 23)) _)); simpa using this
  have k_u : w1.heap[w.heap.size + 2]? = some (.cells #[.int .i64 u.a, .int .i64 u.b, .int .i64 u.c, .int .i64 u.d] 23 (0, 0)) := by have := bk bc (heap_alloc_new ((w.alloc (.cells #[.int .i64 a, .int .i64 b, .int .i64 c, .int .i64 d] 23)).alloc (.cells #[.int .i64 s.a, .int .i64 s.b, .int .i64 s.c, .int .i64 s.d] 23)) _); simpa using this
  clear bc
  go_upto_region 2 with fail
  obtain ⟨Y1, g_q, eY, eg⟩ : ∃ Y g, Y = w1.alloc (.cells #[.int .i64 a, .int .i64 b, .int .i64 c, .int .i64 d] 26) ∧ g = w1.heap.size := ⟨_, _, rfl, rfl⟩
  rw [← eY, ← eg]
  have bc : Below w1.heap.size w1 Y1 := by rw [eY]; exact (Below.refl _ _).alloc (Nat.le_refl _) _
  have k_q : Y1.heap[g_q]? = some (.cells #[.int .i64 a, .int .i64 b, .int .i64 c, .int .i64 d] 26 (0, 0)) := by rw [eY, eg]; exact heap_alloc_new w1 _
  replace k_r := bk bc k_r
  replace k_s := bk bc k_s
  replace k_u := bk bc k_u
  replace bw := bst bc bw
  clear bc eY eg
  go_cut [14, 15] (fun s14 s15 wx => ∃ (g_both : Nat), s14 = .pointer (some ⟨g_both, 0, none⟩) ∧ s15 = .bool true ∧ wx.heap[g_both]? = some (.cells #[.int .i64 p1.a, .int .i64 p1.b, .int .i64 p1.c, .int .i64 p1.d] 26 (0, 0)) ∧ wx.heap[w.heap.size]? = some (.cells #[.int .i64 a, .int .i64 b, .int .i64 c, .int .i64 d] 23 (0, 0)) ∧ wx.heap[w.heap.size + 1]? = some (.cells #[.int .i64 s.a, .int .i64 s.b, .int .i64 s.c, .int .i64 s.d] 23 (0, 0)) ∧ wx.heap[w.heap.size + 2]? = some (.cells #[.int .i64 u.a, .int .i64 u.b, .int .i64 u.c, .int .i64 u.d] 23 (0, 0)) ∧ wx.heap[g_q]? = some (.cells #[.int .i64 a, .int .i64 b, .int .i64 c, .int .i64 d] 26 (0, 0)) ∧ Hid (Below w.heap.size w wx))
  case first =>
    refine wp_region_held_drew (S := fun w' => w'.cell? ⟨g_q, 0, none⟩ = some (.int .i64 a) ∧ w'.cell? ⟨g_q, 1, none⟩ = some (.int .i64 b) ∧ w'.cell? ⟨g_q, 2, none⟩ = some (.int .i64 c) ∧ w'.cell? ⟨g_q, 3, none⟩ = some (.int .i64 d) ∧ w'.cell? ⟨w.heap.size + 1, 0, none⟩ = some (.int .i64 s.a) ∧ w'.cell? ⟨w.heap.size + 1, 1, none⟩ = some (.int .i64 s.b) ∧ w'.cell? ⟨w.heap.size + 1, 2, none⟩ = some (.int .i64 s.c) ∧ w'.cell? ⟨w.heap.size + 1, 3, none⟩ = some (.int .i64 s.d)) (by kernel_rfl) ⟨(q4c k_q).1.1, (q4c k_q).1.2.1, (q4c k_q).1.2.2.1, (q4c k_q).1.2.2.2, (q4c k_s).1.1, (q4c k_s).1.2.1, (q4c k_s).1.2.2.1, (q4c k_s).1.2.2.2⟩ ?_
    intro hHeld
    obtain ⟨X2, eX, bc⟩ : ∃ X, X = Y1.drew ∧ Below Y1.heap.size Y1 X := ⟨_, rfl, (Below.refl _ _).drew⟩
    rw [← eX] at hHeld ⊢
    replace k_r := bk bc k_r
    replace k_s := bk bc k_s
    replace k_u := bk bc k_u
    replace k_q := bk bc k_q
    replace bw := bst bc bw
    clear eX bc
    refine takx (i := 0) (D := 29) (v := .agg #[.int .i64 a, .int .i64 b, .int .i64 c, .int .i64 d]) rfl rfl (by kernel_rfl) (by kernel_rfl) (by kernel_rfl) (fun _ _ _ h => h) (Or.inl ⟨by rfl, fun W hSw => by (try dsimp only at hSw); go_simp⟩) (by assumption) ?_
    (try simp only [List.setIfInBounds_toArray, List.set_cons_zero, List.set_cons_succ])
    refine takx (i := 1) (D := 30) (v := .agg #[.int .i64 s.a, .int .i64 s.b, .int .i64 s.c, .int .i64 s.d]) rfl rfl (by kernel_rfl) (by kernel_rfl) (by kernel_rfl) (fun _ _ _ h => h) (Or.inl ⟨by rfl, fun W hSw => by (try dsimp only at hSw); go_simp⟩) (by assumption) ?_
    (try simp only [List.setIfInBounds_toArray, List.set_cons_zero, List.set_cons_succ])
    refine wpAnyH_ready (rs := [2, 7]) (by kernel_rfl) (by simp) ?_
    refine (AllReadyH.cons rfl (fun K hK => ?_) (AllReadyH.cons rfl (fun K hK => ?_) AllReadyH.nil))
    · go_simp
      refine (toRect4 s.a s.b s.c s.d _).mono ?_
      rintro e X3 ⟨rfl, bc⟩
      refine hK.out _ _ ⟨ck bc hHeld.1, ck bc hHeld.2.1, ck bc hHeld.2.2.1, ck bc hHeld.2.2.2.1, ck bc hHeld.2.2.2.2.1, ck bc hHeld.2.2.2.2.2.1, ck bc hHeld.2.2.2.2.2.2.1, ck bc hHeld.2.2.2.2.2.2.2⟩ (fun hHeld => ?_)
      clear hK K
      (try simp only [List.setIfInBounds_toArray, List.set_cons_zero, List.set_cons_succ])
      replace k_r := bk bc k_r
      replace k_s := bk bc k_s
      replace k_u := bk bc k_u
      replace k_q := bk bc k_q
      replace bw := bst bc bw
      clear bc
      refine wpAnyH_ready (rs := [3, 7]) (by kernel_rfl) (by simp) ?_
      refine (AllReadyH.cons rfl (fun K hK => ?_) (AllReadyH.cons rfl (fun K hK => ?_) AllReadyH.nil))
      · go_simp
        refine (common_some ⟨a, b, c, d⟩ s p1 HC1.out _).mono ?_
        rintro e X4 ⟨rfl, bc⟩
        refine hK.out _ _ ⟨ck bc hHeld.1, ck bc hHeld.2.1, ck bc hHeld.2.2.1, ck bc hHeld.2.2.2.1, ck bc hHeld.2.2.2.2.1, ck bc hHeld.2.2.2.2.2.1, ck bc hHeld.2.2.2.2.2.2.1, ck bc hHeld.2.2.2.2.2.2.2⟩ (fun hHeld => ?_)
        clear hK K
        (try simp only [List.setIfInBounds_toArray, List.set_cons_zero, List.set_cons_succ])
        replace k_r := bk bc k_r
        replace k_s := bk bc k_s
        replace k_u := bk bc k_u
        replace k_q := bk bc k_q
        replace bw := bst bc bw
        clear bc
        refine takx (i := 4) (D := 28) (v := .tuple #[.agg #[.int .i64 p1.a, .int .i64 p1.b, .int .i64 p1.c, .int .i64 p1.d], .bool true]) rfl rfl (by kernel_rfl) (by kernel_rfl) (by kernel_rfl) (fun _ _ _ h => h) (Or.inl ⟨by rfl, fun W hSw => by (try dsimp only at hSw); go_simp⟩) (by assumption) ?_
        (try simp only [List.setIfInBounds_toArray, List.set_cons_zero, List.set_cons_succ])
        refine takx (i := 5) (D := 33) (v := .agg #[.int .i64 p1.a, .int .i64 p1.b, .int .i64 p1.c, .int .i64 p1.d]) rfl rfl (by kernel_rfl) (by kernel_rfl) (by kernel_rfl) (fun _ _ _ h => h) (Or.inl ⟨by rfl, fun W hSw => by (try dsimp only at hSw); go_simp⟩) (by assumption) ?_
        (try simp only [List.setIfInBounds_toArray, List.set_cons_zero, List.set_cons_succ])
        refine takx (i := 6) (D := 34) (v := .bool true) rfl rfl (by kernel_rfl) (by kernel_rfl) (by kernel_rfl) (fun _ _ _ h => h) (Or.inl ⟨by rfl, fun W hSw => by (try dsimp only at hSw); go_simp⟩) (by assumption) ?_
        (try simp only [List.setIfInBounds_toArray, List.set_cons_zero, List.set_cons_succ])
        refine wpAnyH_ready (rs := [7]) (by kernel_rfl) (by simp) ?_
        refine (AllReadyH.cons rfl (fun K hK => ?_) AllReadyH.nil)
        go_simp
        refine hK.out _ _ ⟨cka hHeld.1, cka hHeld.2.1, cka hHeld.2.2.1, cka hHeld.2.2.2.1, cka hHeld.2.2.2.2.1, cka hHeld.2.2.2.2.2.1, cka hHeld.2.2.2.2.2.2.1, cka hHeld.2.2.2.2.2.2.2⟩ (fun hHeld => ?_)
        clear hK K
        (try simp only [List.setIfInBounds_toArray, List.set_cons_zero, List.set_cons_succ])
        obtain ⟨X5, g5, eY, eg⟩ : ∃ Y g, Y = X4.alloc (.cells #[.int .i64 0, .int .i64 0, .int .i64 0, .int .i64 0] 26) ∧ g = X4.heap.size := ⟨_, _, rfl, rfl⟩
        rw [← eY, ← eg]
        rw [← eY] at hHeld
        have bc : Below X4.heap.size X4 X5 := by rw [eY]; exact (Below.refl _ _).alloc (Nat.le_refl _) _
        have k_n14 : X5.heap[g5]? = some (.cells #[.int .i64 0, .int .i64 0, .int .i64 0, .int .i64 0] 26 (0, 0)) := by rw [eY, eg]; exact heap_alloc_new X4 _
        have lo_n14 : w.heap.size ≤ g5 := by rw [eg]; exact bw.size
        have ne_r_n14 : ¬ w.heap.size = g5 := ne_new k_r eg
        have ne_s_n14 : ¬ w.heap.size + 1 = g5 := ne_new k_s eg
        have ne_u_n14 : ¬ w.heap.size + 2 = g5 := ne_new k_u eg
        have ne_q_n14 : ¬ g_q = g5 := ne_new k_q eg
        replace k_r := bk bc k_r
        replace k_s := bk bc k_s
        replace k_u := bk bc k_u
        replace k_q := bk bc k_q
        replace bw := bst bc bw
        clear bc eY eg
        refine wpAnyH_ready (rs := [8]) (by kernel_rfl) (by simp) ?_
        refine (AllReadyH.cons rfl (fun K hK => ?_) AllReadyH.nil)
        have qq := q4c k_n14
        go_simp
        clear qq
        refine hK.out _ _ ⟨(cks ne_q_n14 (cks ne_q_n14 (cks ne_q_n14 (cks ne_q_n14 hHeld.1)))), (cks ne_q_n14 (cks ne_q_n14 (cks ne_q_n14 (cks ne_q_n14 hHeld.2.1)))), (cks ne_q_n14 (cks ne_q_n14 (cks ne_q_n14 (cks ne_q_n14 hHeld.2.2.1)))), (cks ne_q_n14 (cks ne_q_n14 (cks ne_q_n14 (cks ne_q_n14 hHeld.2.2.2.1)))), (cks ne_s_n14 (cks ne_s_n14 (cks ne_s_n14 (cks ne_s_n14 hHeld.2.2.2.2.1)))), (cks ne_s_n14 (cks ne_s_n14 (cks ne_s_n14 (cks ne_s_n14 hHeld.2.2.2.2.2.1)))), (cks ne_s_n14 (cks ne_s_n14 (cks ne_s_n14 (cks ne_s_n14 hHeld.2.2.2.2.2.2.1)))), (cks ne_s_n14 (cks ne_s_n14 (cks ne_s_n14 (cks ne_s_n14 hHeld.2.2.2.2.2.2.2))))⟩ (fun hHeld => ?_)
        clear hK K
        (try simp only [List.setIfInBounds_toArray, List.set_cons_zero, List.set_cons_succ])
        obtain ⟨X6, eY⟩ : ∃ Y, Y = ((((X5.setCell ⟨g5, 0, none⟩ (.int .i64 p1.a)).setCell ⟨g5, 1, none⟩ (.int .i64 p1.b)).setCell ⟨g5, 2, none⟩ (.int .i64 p1.c)).setCell ⟨g5, 3, none⟩ (.int .i64 p1.d)) := ⟨_, rfl⟩
        rw [← eY] at hHeld ⊢
        replace k_r : X6.heap[w.heap.size]? = some (.cells #[.int .i64 a, .int .i64 b, .int .i64 c, .int .i64 d] 23 (0, 0)) := by rw [eY]; exact (bks ne_r_n14 (bks ne_r_n14 (bks ne_r_n14 (bks ne_r_n14 k_r))))
        replace k_s : X6.heap[w.heap.size + 1]? = some (.cells #[.int .i64 s.a, .int .i64 s.b, .int .i64 s.c, .int .i64 s.d] 23 (0, 0)) := by rw [eY]; exact (bks ne_s_n14 (bks ne_s_n14 (bks ne_s_n14 (bks ne_s_n14 k_s))))
        replace k_u : X6.heap[w.heap.size + 2]? = some (.cells #[.int .i64 u.a, .int .i64 u.b, .int .i64 u.c, .int .i64 u.d] 23 (0, 0)) := by rw [eY]; exact (bks ne_u_n14 (bks ne_u_n14 (bks ne_u_n14 (bks ne_u_n14 k_u))))
        replace k_q : X6.heap[g_q]? = some (.cells #[.int .i64 a, .int .i64 b, .int .i64 c, .int .i64 d] 26 (0, 0)) := by rw [eY]; exact (bks ne_q_n14 (bks ne_q_n14 (bks ne_q_n14 (bks ne_q_n14 k_q))))
        replace bw : Below w.heap.size w X6 := by rw [eY]; exact (bss lo_n14 (bss lo_n14 (bss lo_n14 (bss lo_n14 bw))))
        replace k_n14 : X6.heap[g5]? = some (.cells #[.int .i64 p1.a, .int .i64 p1.b, .int .i64 p1.c, .int .i64 p1.d] 26 (0, 0)) := by rw [eY]; exact q4s k_n14
        clear eY
        refine takx (i := 9) (D := 15) (v := .bool true) rfl rfl (by kernel_rfl) (by kernel_rfl) (by kernel_rfl) (fun _ _ _ h => h) (Or.inl ⟨by rfl, fun W hSw => by (try dsimp only at hSw); go_simp⟩) (by assumption) ?_
        (try simp only [List.setIfInBounds_toArray, List.set_cons_zero, List.set_cons_succ])
        refine wpAnyH_done (by kernel_rfl) ?_ _
        go_wp2_with fail
        go_meet
        exact ⟨_, rfl, rfl, k_n14, k_r, k_s, k_u, k_q, bw⟩
      · go_simp
        refine hK.out _ _ ⟨cka hHeld.1, cka hHeld.2.1, cka hHeld.2.2.1, cka hHeld.2.2.2.1, cka hHeld.2.2.2.2.1, cka hHeld.2.2.2.2.2.1, cka hHeld.2.2.2.2.2.2.1, cka hHeld.2.2.2.2.2.2.2⟩ (fun hHeld => ?_)
        clear hK K
        (try simp only [List.setIfInBounds_toArray, List.set_cons_zero, List.set_cons_succ])
        obtain ⟨X7, g7, eY, eg⟩ : ∃ Y g, Y = X3.alloc (.cells #[.int .i64 0, .int .i64 0, .int .i64 0, .int .i64 0] 26) ∧ g = X3.heap.size := ⟨_, _, rfl, rfl⟩
        rw [← eY, ← eg]
        rw [← eY] at hHeld
        have bc : Below X3.heap.size X3 X7 := by rw [eY]; exact (Below.refl _ _).alloc (Nat.le_refl _) _
        have k_n14 : X7.heap[g7]? = some (.cells #[.int .i64 0, .int .i64 0, .int .i64 0, .int .i64 0] 26 (0, 0)) := by rw [eY, eg]; exact heap_alloc_new X3 _
        have lo_n14 : w.heap.size ≤ g7 := by rw [eg]; exact bw.size
        have ne_r_n14 : ¬ w.heap.size = g7 := ne_new k_r eg
        have ne_s_n14 : ¬ w.heap.size + 1 = g7 := ne_new k_s eg
        have ne_u_n14 : ¬ w.heap.size + 2 = g7 := ne_new k_u eg
        have ne_q_n14 : ¬ g_q = g7 := ne_new k_q eg
        replace k_r := bk bc k_r
        replace k_s := bk bc k_s
        replace k_u := bk bc k_u
        replace k_q := bk bc k_q
        replace bw := bst bc bw
        clear bc eY eg
        refine wpAnyH_ready (rs := [3]) (by kernel_rfl) (by simp) ?_
        refine (AllReadyH.cons rfl (fun K hK => ?_) AllReadyH.nil)
        go_simp
        refine (common_some ⟨a, b, c, d⟩ s p1 HC1.out _).mono ?_
        rintro e X8 ⟨rfl, bc⟩
        refine hK.out _ _ ⟨ck bc hHeld.1, ck bc hHeld.2.1, ck bc hHeld.2.2.1, ck bc hHeld.2.2.2.1, ck bc hHeld.2.2.2.2.1, ck bc hHeld.2.2.2.2.2.1, ck bc hHeld.2.2.2.2.2.2.1, ck bc hHeld.2.2.2.2.2.2.2⟩ (fun hHeld => ?_)
        clear hK K
        (try simp only [List.setIfInBounds_toArray, List.set_cons_zero, List.set_cons_succ])
        replace k_r := bk bc k_r
        replace k_s := bk bc k_s
        replace k_u := bk bc k_u
        replace k_q := bk bc k_q
        replace k_n14 := bk bc k_n14
        replace bw := bst bc bw
        clear bc
        refine takx (i := 4) (D := 28) (v := .tuple #[.agg #[.int .i64 p1.a, .int .i64 p1.b, .int .i64 p1.c, .int .i64 p1.d], .bool true]) rfl rfl (by kernel_rfl) (by kernel_rfl) (by kernel_rfl) (fun _ _ _ h => h) (Or.inl ⟨by rfl, fun W hSw => by (try dsimp only at hSw); go_simp⟩) (by assumption) ?_
        (try simp only [List.setIfInBounds_toArray, List.set_cons_zero, List.set_cons_succ])
        refine takx (i := 5) (D := 33) (v := .agg #[.int .i64 p1.a, .int .i64 p1.b, .int .i64 p1.c, .int .i64 p1.d]) rfl rfl (by kernel_rfl) (by kernel_rfl) (by kernel_rfl) (fun _ _ _ h => h) (Or.inl ⟨by rfl, fun W hSw => by (try dsimp only at hSw); go_simp⟩) (by assumption) ?_
        (try simp only [List.setIfInBounds_toArray, List.set_cons_zero, List.set_cons_succ])
        refine takx (i := 6) (D := 34) (v := .bool true) rfl rfl (by kernel_rfl) (by kernel_rfl) (by kernel_rfl) (fun _ _ _ h => h) (Or.inl ⟨by rfl, fun W hSw => by (try dsimp only at hSw); go_simp⟩) (by assumption) ?_
        (try simp only [List.setIfInBounds_toArray, List.set_cons_zero, List.set_cons_succ])
        refine wpAnyH_ready (rs := [8]) (by kernel_rfl) (by simp) ?_
        refine (AllReadyH.cons rfl (fun K hK => ?_) AllReadyH.nil)
        have qq := q4c k_n14
        go_simp
        clear qq
        refine hK.out _ _ ⟨(cks ne_q_n14 (cks ne_q_n14 (cks ne_q_n14 (cks ne_q_n14 hHeld.1)))), (cks ne_q_n14 (cks ne_q_n14 (cks ne_q_n14 (cks ne_q_n14 hHeld.2.1)))), (cks ne_q_n14 (cks ne_q_n14 (cks ne_q_n14 (cks ne_q_n14 hHeld.2.2.1)))), (cks ne_q_n14 (cks ne_q_n14 (cks ne_q_n14 (cks ne_q_n14 hHeld.2.2.2.1)))), (cks ne_s_n14 (cks ne_s_n14 (cks ne_s_n14 (cks ne_s_n14 hHeld.2.2.2.2.1)))), (cks ne_s_n14 (cks ne_s_n14 (cks ne_s_n14 (cks ne_s_n14 hHeld.2.2.2.2.2.1)))), (cks ne_s_n14 (cks ne_s_n14 (cks ne_s_n14 (cks ne_s_n14 hHeld.2.2.2.2.2.2.1)))), (cks ne_s_n14 (cks ne_s_n14 (cks ne_s_n14 (cks ne_s_n14 hHeld.2.2.2.2.2.2.2))))⟩ (fun hHeld => ?_)
        clear hK K
        (try simp only [List.setIfInBounds_toArray, List.set_cons_zero, List.set_cons_succ])
        obtain ⟨X9, eY⟩ : ∃ Y, Y = ((((X8.setCell ⟨g7, 0, none⟩ (.int .i64 p1.a)).setCell ⟨g7, 1, none⟩ (.int .i64 p1.b)).setCell ⟨g7, 2, none⟩ (.int .i64 p1.c)).setCell ⟨g7, 3, none⟩ (.int .i64 p1.d)) := ⟨_, rfl⟩
        rw [← eY] at hHeld ⊢
        replace k_r : X9.heap[w.heap.size]? = some (.cells #[.int .i64 a, .int .i64 b, .int .i64 c, .int .i64 d] 23 (0, 0)) := by rw [eY]; exact (bks ne_r_n14 (bks ne_r_n14 (bks ne_r_n14 (bks ne_r_n14 k_r))))
        replace k_s : X9.heap[w.heap.size + 1]? = some (.cells #[.int .i64 s.a, .int .i64 s.b, .int .i64 s.c, .int .i64 s.d] 23 (0, 0)) := by rw [eY]; exact (bks ne_s_n14 (bks ne_s_n14 (bks ne_s_n14 (bks ne_s_n14 k_s))))
        replace k_u : X9.heap[w.heap.size + 2]? = some (.cells #[.int .i64 u.a, .int .i64 u.b, .int .i64 u.c, .int .i64 u.d] 23 (0, 0)) := by rw [eY]; exact (bks ne_u_n14 (bks ne_u_n14 (bks ne_u_n14 (bks ne_u_n14 k_u))))
        replace k_q : X9.heap[g_q]? = some (.cells #[.int .i64 a, .int .i64 b, .int .i64 c, .int .i64 d] 26 (0, 0)) := by rw [eY]; exact (bks ne_q_n14 (bks ne_q_n14 (bks ne_q_n14 (bks ne_q_n14 k_q))))
        replace bw : Below w.heap.size w X9 := by rw [eY]; exact (bss lo_n14 (bss lo_n14 (bss lo_n14 (bss lo_n14 bw))))
        replace k_n14 : X9.heap[g7]? = some (.cells #[.int .i64 p1.a, .int .i64 p1.b, .int .i64 p1.c, .int .i64 p1.d] 26 (0, 0)) := by rw [eY]; exact q4s k_n14
        clear eY
        refine takx (i := 9) (D := 15) (v := .bool true) rfl rfl (by kernel_rfl) (by kernel_rfl) (by kernel_rfl) (fun _ _ _ h => h) (Or.inl ⟨by rfl, fun W hSw => by (try dsimp only at hSw); go_simp⟩) (by assumption) ?_
        (try simp only [List.setIfInBounds_toArray, List.set_cons_zero, List.set_cons_succ])
        refine wpAnyH_done (by kernel_rfl) ?_ _
        go_wp2_with fail
        go_meet
        exact ⟨_, rfl, rfl, k_n14, k_r, k_s, k_u, k_q, bw⟩
    · go_simp
      refine hK.out _ _ ⟨cka hHeld.1, cka hHeld.2.1, cka hHeld.2.2.1, cka hHeld.2.2.2.1, cka hHeld.2.2.2.2.1, cka hHeld.2.2.2.2.2.1, cka hHeld.2.2.2.2.2.2.1, cka hHeld.2.2.2.2.2.2.2⟩ (fun hHeld => ?_)
      clear hK K
      (try simp only [List.setIfInBounds_toArray, List.set_cons_zero, List.set_cons_succ])
      obtain ⟨X10, g10, eY, eg⟩ : ∃ Y g, Y = X2.alloc (.cells #[.int .i64 0, .int .i64 0, .int .i64 0, .int .i64 0] 26) ∧ g = X2.heap.size := ⟨_, _, rfl, rfl⟩
      rw [← eY, ← eg]
      rw [← eY] at hHeld
      have bc : Below X2.heap.size X2 X10 := by rw [eY]; exact (Below.refl _ _).alloc (Nat.le_refl _) _
      have k_n14 : X10.heap[g10]? = some (.cells #[.int .i64 0, .int .i64 0, .int .i64 0, .int .i64 0] 26 (0, 0)) := by rw [eY, eg]; exact heap_alloc_new X2 _
      have lo_n14 : w.heap.size ≤ g10 := by rw [eg]; exact bw.size
      have ne_r_n14 : ¬ w.heap.size = g10 := ne_new k_r eg
      have ne_s_n14 : ¬ w.heap.size + 1 = g10 := ne_new k_s eg
      have ne_u_n14 : ¬ w.heap.size + 2 = g10 := ne_new k_u eg
      have ne_q_n14 : ¬ g_q = g10 := ne_new k_q eg
      replace k_r := bk bc k_r
      replace k_s := bk bc k_s
      replace k_u := bk bc k_u
      replace k_q := bk bc k_q
      replace bw := bst bc bw
      clear bc eY eg
      refine wpAnyH_ready (rs := [2]) (by kernel_rfl) (by simp) ?_
      refine (AllReadyH.cons rfl (fun K hK => ?_) AllReadyH.nil)
      go_simp
      refine (toRect4 s.a s.b s.c s.d _).mono ?_
      rintro e X11 ⟨rfl, bc⟩
      refine hK.out _ _ ⟨ck bc hHeld.1, ck bc hHeld.2.1, ck bc hHeld.2.2.1, ck bc hHeld.2.2.2.1, ck bc hHeld.2.2.2.2.1, ck bc hHeld.2.2.2.2.2.1, ck bc hHeld.2.2.2.2.2.2.1, ck bc hHeld.2.2.2.2.2.2.2⟩ (fun hHeld => ?_)
      clear hK K
      (try simp only [List.setIfInBounds_toArray, List.set_cons_zero, List.set_cons_succ])
      replace k_r := bk bc k_r
      replace k_s := bk bc k_s
      replace k_u := bk bc k_u
      replace k_q := bk bc k_q
      replace k_n14 := bk bc k_n14
      replace bw := bst bc bw
      clear bc
      refine wpAnyH_ready (rs := [3]) (by kernel_rfl) (by simp) ?_
      refine (AllReadyH.cons rfl (fun K hK => ?_) AllReadyH.nil)
      go_simp
      refine (common_some ⟨a, b, c, d⟩ s p1 HC1.out _).mono ?_
      rintro e X12 ⟨rfl, bc⟩
      refine hK.out _ _ ⟨ck bc hHeld.1, ck bc hHeld.2.1, ck bc hHeld.2.2.1, ck bc hHeld.2.2.2.1, ck bc hHeld.2.2.2.2.1, ck bc hHeld.2.2.2.2.2.1, ck bc hHeld.2.2.2.2.2.2.1, ck bc hHeld.2.2.2.2.2.2.2⟩ (fun hHeld => ?_)
      clear hK K
      (try simp only [List.setIfInBounds_toArray, List.set_cons_zero, List.set_cons_succ])
      replace k_r := bk bc k_r
      replace k_s := bk bc k_s
      replace k_u := bk bc k_u
      replace k_q := bk bc k_q
      replace k_n14 := bk bc k_n14
      replace bw := bst bc bw
      clear bc
      refine takx (i := 4) (D := 28) (v := .tuple #[.agg #[.int .i64 p1.a, .int .i64 p1.b, .int .i64 p1.c, .int .i64 p1.d], .bool true]) rfl rfl (by kernel_rfl) (by kernel_rfl) (by kernel_rfl) (fun _ _ _ h => h) (Or.inl ⟨by rfl, fun W hSw => by (try dsimp only at hSw); go_simp⟩) (by assumption) ?_
      (try simp only [List.setIfInBounds_toArray, List.set_cons_zero, List.set_cons_succ])
      refine takx (i := 5) (D := 33) (v := .agg #[.int .i64 p1.a, .int .i64 p1.b, .int .i64 p1.c, .int .i64 p1.d]) rfl rfl (by kernel_rfl) (by kernel_rfl) (by kernel_rfl) (fun _ _ _ h => h) (Or.inl ⟨by rfl, fun W hSw => by (try dsimp only at hSw); go_simp⟩) (by assumption) ?_
      (try simp only [List.setIfInBounds_toArray, List.set_cons_zero, List.set_cons_succ])
      refine takx (i := 6) (D := 34) (v := .bool true) rfl rfl (by kernel_rfl) (by kernel_rfl) (by kernel_rfl) (fun _ _ _ h => h) (Or.inl ⟨by rfl, fun W hSw => by (try dsimp only at hSw); go_simp⟩) (by assumption) ?_
      (try simp only [List.setIfInBounds_toArray, List.set_cons_zero, List.set_cons_succ])
      refine wpAnyH_ready (rs := [8]) (by kernel_rfl) (by simp) ?_
      refine (AllReadyH.cons rfl (fun K hK => ?_) AllReadyH.nil)
      have qq := q4c k_n14
      go_simp
      clear qq
      refine hK.out _ _ ⟨(cks ne_q_n14 (cks ne_q_n14 (cks ne_q_n14 (cks ne_q_n14 hHeld.1)))), (cks ne_q_n14 (cks ne_q_n14 (cks ne_q_n14 (cks ne_q_n14 hHeld.2.1)))), (cks ne_q_n14 (cks ne_q_n14 (cks ne_q_n14 (cks ne_q_n14 hHeld.2.2.1)))), (cks ne_q_n14 (cks ne_q_n14 (cks ne_q_n14 (cks ne_q_n14 hHeld.2.2.2.1)))), (cks ne_s_n14 (cks ne_s_n14 (cks ne_s_n14 (cks ne_s_n14 hHeld.2.2.2.2.1)))), (cks ne_s_n14 (cks ne_s_n14 (cks ne_s_n14 (cks ne_s_n14 hHeld.2.2.2.2.2.1)))), (cks ne_s_n14 (cks ne_s_n14 (cks ne_s_n14 (cks ne_s_n14 hHeld.2.2.2.2.2.2.1)))), (cks ne_s_n14 (cks ne_s_n14 (cks ne_s_n14 (cks ne_s_n14 hHeld.2.2.2.2.2.2.2))))⟩ (fun hHeld => ?_)
      clear hK K
      (try simp only [List.setIfInBounds_toArray, List.set_cons_zero, List.set_cons_succ])
      obtain ⟨X13, eY⟩ : ∃ Y, Y = ((((X12.setCell ⟨g10, 0, none⟩ (.int .i64 p1.a)).setCell ⟨g10, 1, none⟩ (.int .i64 p1.b)).setCell ⟨g10, 2, none⟩ (.int .i64 p1.c)).setCell ⟨g10, 3, none⟩ (.int .i64 p1.d)) := ⟨_, rfl⟩
      rw [← eY] at hHeld ⊢
      replace k_r : X13.heap[w.heap.size]? = some (.cells #[.int .i64 a, .int .i64 b, .int .i64 c, .int .i64 d] 23 (0, 0)) := by rw [eY]; exact (bks ne_r_n14 (bks ne_r_n14 (bks ne_r_n14 (bks ne_r_n14 k_r))))
      replace k_s : X13.heap[w.heap.size + 1]? = some (.cells #[.int .i64 s.a, .int .i64 s.b, .int .i64 s.c, .int .i64 s.d] 23 (0, 0)) := by rw [eY]; exact (bks ne_s_n14 (bks ne_s_n14 (bks ne_s_n14 (bks ne_s_n14 k_s))))
      replace k_u : X13.heap[w.heap.size + 2]? = some (.cells #[.int .i64 u.a, .int .i64 u.b, .int .i64 u.c, .int .i64 u.d] 23 (0, 0)) := by rw [eY]; exact (bks ne_u_n14 (bks ne_u_n14 (bks ne_u_n14 (bks ne_u_n14 k_u))))
      replace k_q : X13.heap[g_q]? = some (.cells #[.int .i64 a, .int .i64 b, .int .i64 c, .int .i64 d] 26 (0, 0)) := by rw [eY]; exact (bks ne_q_n14 (bks ne_q_n14 (bks ne_q_n14 (bks ne_q_n14 k_q))))
      replace bw : Below w.heap.size w X13 := by rw [eY]; exact (bss lo_n14 (bss lo_n14 (bss lo_n14 (bss lo_n14 bw))))
      replace k_n14 : X13.heap[g10]? = some (.cells #[.int .i64 p1.a, .int .i64 p1.b, .int .i64 p1.c, .int .i64 p1.d] 26 (0, 0)) := by rw [eY]; exact q4s k_n14
      clear eY
      refine takx (i := 9) (D := 15) (v := .bool true) rfl rfl (by kernel_rfl) (by kernel_rfl) (by kernel_rfl) (fun _ _ _ h => h) (Or.inl ⟨by rfl, fun W hSw => by (try dsimp only at hSw); go_simp⟩) (by assumption) ?_
      (try simp only [List.setIfInBounds_toArray, List.set_cons_zero, List.set_cons_succ])
      refine wpAnyH_done (by kernel_rfl) ?_ _
      go_wp2_with fail
      go_meet
      exact ⟨_, rfl, rfl, k_n14, k_r, k_s, k_u, k_q, bw⟩
  case rest =>
    clear k_r k_s k_u k_q bw
    obtain ⟨g_both, rfl, rfl, k_both, k_r, k_s, k_u, k_q, BW⟩ := hcut
    have bw := BW.out
    clear BW
    have q_r := q4c k_r
    have q_s := q4c k_s
    have q_u := q4c k_u
    have q_q := q4c k_q
    have q_both := q4c k_both
    go_wp2_with fail
    refine (fine_yes a b c d HF.out _).mono ?_
    rintro e Y15 ⟨rfl, bc⟩
    clear q_r q_s q_u q_q q_both
    replace k_r := bk bc k_r
    replace k_s := bk bc k_s
    replace k_u := bk bc k_u
    replace k_q := bk bc k_q
    replace k_both := bk bc k_both
    replace bw := bst bc bw
    clear bc
    have q_r := q4c k_r
    have q_s := q4c k_s
    have q_u := q4c k_u
    have q_q := q4c k_q
    have q_both := q4c k_both
    go_upto_region 5 with fail
    clear q_r q_s q_u q_q q_both
    go_cut [16, 17] (fun s16 s17 wx => ∃ (g_all : Nat), s16 = .pointer (some ⟨g_all, 0, none⟩) ∧ s17 = .bool false ∧ wx.heap[g_all]? = some (.cells #[.int .i64 0, .int .i64 0, .int .i64 0, .int .i64 0] 26 (0, 0)) ∧ wx.heap[w.heap.size]? = some (.cells #[.int .i64 a, .int .i64 b, .int .i64 c, .int .i64 d] 23 (0, 0)) ∧ wx.heap[w.heap.size + 1]? = some (.cells #[.int .i64 s.a, .int .i64 s.b, .int .i64 s.c, .int .i64 s.d] 23 (0, 0)) ∧ wx.heap[w.heap.size + 2]? = some (.cells #[.int .i64 u.a, .int .i64 u.b, .int .i64 u.c, .int .i64 u.d] 23 (0, 0)) ∧ wx.heap[g_q]? = some (.cells #[.int .i64 a, .int .i64 b, .int .i64 c, .int .i64 d] 26 (0, 0)) ∧ wx.heap[g_both]? = some (.cells #[.int .i64 p1.a, .int .i64 p1.b, .int .i64 p1.c, .int .i64 p1.d] 26 (0, 0)) ∧ Hid (Below w.heap.size w wx))
    case first =>
      refine wp_region_held_drew (S := fun w' => w'.cell? ⟨g_both, 0, none⟩ = some (.int .i64 p1.a) ∧ w'.cell? ⟨g_both, 1, none⟩ = some (.int .i64 p1.b) ∧ w'.cell? ⟨g_both, 2, none⟩ = some (.int .i64 p1.c) ∧ w'.cell? ⟨g_both, 3, none⟩ = some (.int .i64 p1.d) ∧ w'.cell? ⟨w.heap.size + 2, 0, none⟩ = some (.int .i64 u.a) ∧ w'.cell? ⟨w.heap.size + 2, 1, none⟩ = some (.int .i64 u.b) ∧ w'.cell? ⟨w.heap.size + 2, 2, none⟩ = some (.int .i64 u.c) ∧ w'.cell? ⟨w.heap.size + 2, 3, none⟩ = some (.int .i64 u.d)) (by kernel_rfl) ⟨(q4c k_both).1.1, (q4c k_both).1.2.1, (q4c k_both).1.2.2.1, (q4c k_both).1.2.2.2, (q4c k_u).1.1, (q4c k_u).1.2.1, (q4c k_u).1.2.2.1, (q4c k_u).1.2.2.2⟩ ?_
      intro hHeld
      obtain ⟨X16, eX, bc⟩ : ∃ X, X = Y15.drew ∧ Below Y15.heap.size Y15 X := ⟨_, rfl, (Below.refl _ _).drew⟩
      rw [← eX] at hHeld ⊢
      replace k_r := bk bc k_r
      replace k_s := bk bc k_s
      replace k_u := bk bc k_u
      replace k_q := bk bc k_q
      replace k_both := bk bc k_both
      replace bw := bst bc bw
      clear eX bc
      refine takx (i := 0) (D := 43) (v := .agg #[.int .i64 p1.a, .int .i64 p1.b, .int .i64 p1.c, .int .i64 p1.d]) rfl rfl (by kernel_rfl) (by kernel_rfl) (by kernel_rfl) (fun _ _ _ h => h) (Or.inl ⟨by rfl, fun W hSw => by (try dsimp only at hSw); go_simp⟩) (by assumption) ?_
      (try simp only [List.setIfInBounds_toArray, List.set_cons_zero, List.set_cons_succ])
      refine takx (i := 1) (D := 44) (v := .agg #[.int .i64 u.a, .int .i64 u.b, .int .i64 u.c, .int .i64 u.d]) rfl rfl (by kernel_rfl) (by kernel_rfl) (by kernel_rfl) (fun _ _ _ h => h) (Or.inl ⟨by rfl, fun W hSw => by (try dsimp only at hSw); go_simp⟩) (by assumption) ?_
      (try simp only [List.setIfInBounds_toArray, List.set_cons_zero, List.set_cons_succ])
      refine wpAnyH_ready (rs := [2, 7]) (by kernel_rfl) (by simp) ?_
      refine (AllReadyH.cons rfl (fun K hK => ?_) (AllReadyH.cons rfl (fun K hK => ?_) AllReadyH.nil))
      · go_simp
        refine (toRect4 u.a u.b u.c u.d _).mono ?_
        rintro e X17 ⟨rfl, bc⟩
        refine hK.out _ _ ⟨ck bc hHeld.1, ck bc hHeld.2.1, ck bc hHeld.2.2.1, ck bc hHeld.2.2.2.1, ck bc hHeld.2.2.2.2.1, ck bc hHeld.2.2.2.2.2.1, ck bc hHeld.2.2.2.2.2.2.1, ck bc hHeld.2.2.2.2.2.2.2⟩ (fun hHeld => ?_)
        clear hK K
        (try simp only [List.setIfInBounds_toArray, List.set_cons_zero, List.set_cons_succ])
        replace k_r := bk bc k_r
        replace k_s := bk bc k_s
        replace k_u := bk bc k_u
        replace k_q := bk bc k_q
        replace k_both := bk bc k_both
        replace bw := bst bc bw
        clear bc
        refine wpAnyH_ready (rs := [3, 7]) (by kernel_rfl) (by simp) ?_
        refine (AllReadyH.cons rfl (fun K hK => ?_) (AllReadyH.cons rfl (fun K hK => ?_) AllReadyH.nil))
        · go_simp
          refine (common_none p1 u HC2.out _).mono ?_
          rintro e X18 ⟨rfl, bc⟩
          refine hK.out _ _ ⟨ck bc hHeld.1, ck bc hHeld.2.1, ck bc hHeld.2.2.1, ck bc hHeld.2.2.2.1, ck bc hHeld.2.2.2.2.1, ck bc hHeld.2.2.2.2.2.1, ck bc hHeld.2.2.2.2.2.2.1, ck bc hHeld.2.2.2.2.2.2.2⟩ (fun hHeld => ?_)
          clear hK K
          (try simp only [List.setIfInBounds_toArray, List.set_cons_zero, List.set_cons_succ])
          replace k_r := bk bc k_r
          replace k_s := bk bc k_s
          replace k_u := bk bc k_u
          replace k_q := bk bc k_q
          replace k_both := bk bc k_both
          replace bw := bst bc bw
          clear bc
          refine takx (i := 4) (D := 42) (v := .tuple #[.agg #[.int .i64 0, .int .i64 0, .int .i64 0, .int .i64 0], .bool false]) rfl rfl (by kernel_rfl) (by kernel_rfl) (by kernel_rfl) (fun _ _ _ h => h) (Or.inl ⟨by rfl, fun W hSw => by (try dsimp only at hSw); go_simp⟩) (by assumption) ?_
          (try simp only [List.setIfInBounds_toArray, List.set_cons_zero, List.set_cons_succ])
          refine takx (i := 5) (D := 47) (v := .agg #[.int .i64 0, .int .i64 0, .int .i64 0, .int .i64 0]) rfl rfl (by kernel_rfl) (by kernel_rfl) (by kernel_rfl) (fun _ _ _ h => h) (Or.inl ⟨by rfl, fun W hSw => by (try dsimp only at hSw); go_simp⟩) (by assumption) ?_
          (try simp only [List.setIfInBounds_toArray, List.set_cons_zero, List.set_cons_succ])
          refine takx (i := 6) (D := 48) (v := .bool false) rfl rfl (by kernel_rfl) (by kernel_rfl) (by kernel_rfl) (fun _ _ _ h => h) (Or.inl ⟨by rfl, fun W hSw => by (try dsimp only at hSw); go_simp⟩) (by assumption) ?_
          (try simp only [List.setIfInBounds_toArray, List.set_cons_zero, List.set_cons_succ])
          refine wpAnyH_ready (rs := [7]) (by kernel_rfl) (by simp) ?_
          refine (AllReadyH.cons rfl (fun K hK => ?_) AllReadyH.nil)
          go_simp
          refine hK.out _ _ ⟨cka hHeld.1, cka hHeld.2.1, cka hHeld.2.2.1, cka hHeld.2.2.2.1, cka hHeld.2.2.2.2.1, cka hHeld.2.2.2.2.2.1, cka hHeld.2.2.2.2.2.2.1, cka hHeld.2.2.2.2.2.2.2⟩ (fun hHeld => ?_)
          clear hK K
          (try simp only [List.setIfInBounds_toArray, List.set_cons_zero, List.set_cons_succ])
          obtain ⟨X19, g19, eY, eg⟩ : ∃ Y g, Y = X18.alloc (.cells #[.int .i64 0, .int .i64 0, .int .i64 0, .int .i64 0] 26) ∧ g = X18.heap.size := ⟨_, _, rfl, rfl⟩
          rw [← eY, ← eg]
          rw [← eY] at hHeld
          have bc : Below X18.heap.size X18 X19 := by rw [eY]; exact (Below.refl _ _).alloc (Nat.le_refl _) _
          have k_n16 : X19.heap[g19]? = some (.cells #[.int .i64 0, .int .i64 0, .int .i64 0, .int .i64 0] 26 (0, 0)) := by rw [eY, eg]; exact heap_alloc_new X18 _
          have lo_n16 : w.heap.size ≤ g19 := by rw [eg]; exact bw.size
          have ne_r_n16 : ¬ w.heap.size = g19 := ne_new k_r eg
          have ne_s_n16 : ¬ w.heap.size + 1 = g19 := ne_new k_s eg
          have ne_u_n16 : ¬ w.heap.size + 2 = g19 := ne_new k_u eg
          have ne_q_n16 : ¬ g_q = g19 := ne_new k_q eg
          have ne_both_n16 : ¬ g_both = g19 := ne_new k_both eg
          replace k_r := bk bc k_r
          replace k_s := bk bc k_s
          replace k_u := bk bc k_u
          replace k_q := bk bc k_q
          replace k_both := bk bc k_both
          replace bw := bst bc bw
          clear bc eY eg
          refine wpAnyH_ready (rs := [8]) (by kernel_rfl) (by simp) ?_
          refine (AllReadyH.cons rfl (fun K hK => ?_) AllReadyH.nil)
          have qq := q4c k_n16
          go_simp
          clear qq
          refine hK.out _ _ ⟨(cks ne_both_n16 (cks ne_both_n16 (cks ne_both_n16 (cks ne_both_n16 hHeld.1)))), (cks ne_both_n16 (cks ne_both_n16 (cks ne_both_n16 (cks ne_both_n16 hHeld.2.1)))), (cks ne_both_n16 (cks ne_both_n16 (cks ne_both_n16 (cks ne_both_n16 hHeld.2.2.1)))), (cks ne_both_n16 (cks ne_both_n16 (cks ne_both_n16 (cks ne_both_n16 hHeld.2.2.2.1)))), (cks ne_u_n16 (cks ne_u_n16 (cks ne_u_n16 (cks ne_u_n16 hHeld.2.2.2.2.1)))), (cks ne_u_n16 (cks ne_u_n16 (cks ne_u_n16 (cks ne_u_n16 hHeld.2.2.2.2.2.1)))), (cks ne_u_n16 (cks ne_u_n16 (cks ne_u_n16 (cks ne_u_n16 hHeld.2.2.2.2.2.2.1)))), (cks ne_u_n16 (cks ne_u_n16 (cks ne_u_n16 (cks ne_u_n16 hHeld.2.2.2.2.2.2.2))))⟩ (fun hHeld => ?_)
          clear hK K
          (try simp only [List.setIfInBounds_toArray, List.set_cons_zero, List.set_cons_succ])
          obtain ⟨X20, eY⟩ : ∃ Y, Y = ((((X19.setCell ⟨g19, 0, none⟩ (.int .i64 0)).setCell ⟨g19, 1, none⟩ (.int .i64 0)).setCell ⟨g19, 2, none⟩ (.int .i64 0)).setCell ⟨g19, 3, none⟩ (.int .i64 0)) := ⟨_, rfl⟩
          rw [← eY] at hHeld ⊢
          replace k_r : X20.heap[w.heap.size]? = some (.cells #[.int .i64 a, .int .i64 b, .int .i64 c, .int .i64 d] 23 (0, 0)) := by rw [eY]; exact (bks ne_r_n16 (bks ne_r_n16 (bks ne_r_n16 (bks ne_r_n16 k_r))))
          replace k_s : X20.heap[w.heap.size + 1]? = some (.cells #[.int .i64 s.a, .int .i64 s.b, .int .i64 s.c, .int .i64 s.d] 23 (0, 0)) := by rw [eY]; exact (bks ne_s_n16 (bks ne_s_n16 (bks ne_s_n16 (bks ne_s_n16 k_s))))
          replace k_u : X20.heap[w.heap.size + 2]? = some (.cells #[.int .i64 u.a, .int .i64 u.b, .int .i64 u.c, .int .i64 u.d] 23 (0, 0)) := by rw [eY]; exact (bks ne_u_n16 (bks ne_u_n16 (bks ne_u_n16 (bks ne_u_n16 k_u))))
          replace k_q : X20.heap[g_q]? = some (.cells #[.int .i64 a, .int .i64 b, .int .i64 c, .int .i64 d] 26 (0, 0)) := by rw [eY]; exact (bks ne_q_n16 (bks ne_q_n16 (bks ne_q_n16 (bks ne_q_n16 k_q))))
          replace k_both : X20.heap[g_both]? = some (.cells #[.int .i64 p1.a, .int .i64 p1.b, .int .i64 p1.c, .int .i64 p1.d] 26 (0, 0)) := by rw [eY]; exact (bks ne_both_n16 (bks ne_both_n16 (bks ne_both_n16 (bks ne_both_n16 k_both))))
          replace bw : Below w.heap.size w X20 := by rw [eY]; exact (bss lo_n16 (bss lo_n16 (bss lo_n16 (bss lo_n16 bw))))
          replace k_n16 : X20.heap[g19]? = some (.cells #[.int .i64 0, .int .i64 0, .int .i64 0, .int .i64 0] 26 (0, 0)) := by rw [eY]; exact q4s k_n16
          clear eY
          refine takx (i := 9) (D := 17) (v := .bool false) rfl rfl (by kernel_rfl) (by kernel_rfl) (by kernel_rfl) (fun _ _ _ h => h) (Or.inl ⟨by rfl, fun W hSw => by (try dsimp only at hSw); go_simp⟩) (by assumption) ?_
          (try simp only [List.setIfInBounds_toArray, List.set_cons_zero, List.set_cons_succ])
          refine wpAnyH_done (by kernel_rfl) ?_ _
          go_wp2_with fail
          go_meet
          exact ⟨_, rfl, rfl, k_n16, k_r, k_s, k_u, k_q, k_both, bw⟩
        · go_simp
          refine hK.out _ _ ⟨cka hHeld.1, cka hHeld.2.1, cka hHeld.2.2.1, cka hHeld.2.2.2.1, cka hHeld.2.2.2.2.1, cka hHeld.2.2.2.2.2.1, cka hHeld.2.2.2.2.2.2.1, cka hHeld.2.2.2.2.2.2.2⟩ (fun hHeld => ?_)
          clear hK K
          (try simp only [List.setIfInBounds_toArray, List.set_cons_zero, List.set_cons_succ])
          obtain ⟨X21, g21, eY, eg⟩ : ∃ Y g, Y = X17.alloc (.cells #[.int .i64 0, .int .i64 0, .int .i64 0, .int .i64 0] 26) ∧ g = X17.heap.size := ⟨_, _, rfl, rfl⟩
          rw [← eY, ← eg]
          rw [← eY] at hHeld
          have bc : Below X17.heap.size X17 X21 := by rw [eY]; exact (Below.refl _ _).alloc (Nat.le_refl _) _
          have k_n16 : X21.heap[g21]? = some (.cells #[.int .i64 0, .int .i64 0, .int .i64 0, .int .i64 0] 26 (0, 0)) := by rw [eY, eg]; exact heap_alloc_new X17 _
          have lo_n16 : w.heap.size ≤ g21 := by rw [eg]; exact bw.size
          have ne_r_n16 : ¬ w.heap.size = g21 := ne_new k_r eg
          have ne_s_n16 : ¬ w.heap.size + 1 = g21 := ne_new k_s eg
          have ne_u_n16 : ¬ w.heap.size + 2 = g21 := ne_new k_u eg
          have ne_q_n16 : ¬ g_q = g21 := ne_new k_q eg
          have ne_both_n16 : ¬ g_both = g21 := ne_new k_both eg
          replace k_r := bk bc k_r
          replace k_s := bk bc k_s
          replace k_u := bk bc k_u
          replace k_q := bk bc k_q
          replace k_both := bk bc k_both
          replace bw := bst bc bw
          clear bc eY eg
          refine wpAnyH_ready (rs := [3]) (by kernel_rfl) (by simp) ?_
          refine (AllReadyH.cons rfl (fun K hK => ?_) AllReadyH.nil)
          go_simp
          refine (common_none p1 u HC2.out _).mono ?_
          rintro e X22 ⟨rfl, bc⟩
          refine hK.out _ _ ⟨ck bc hHeld.1, ck bc hHeld.2.1, ck bc hHeld.2.2.1, ck bc hHeld.2.2.2.1, ck bc hHeld.2.2.2.2.1, ck bc hHeld.2.2.2.2.2.1, ck bc hHeld.2.2.2.2.2.2.1, ck bc hHeld.2.2.2.2.2.2.2⟩ (fun hHeld => ?_)
          clear hK K
          (try simp only [List.setIfInBounds_toArray, List.set_cons_zero, List.set_cons_succ])
          replace k_r := bk bc k_r
          replace k_s := bk bc k_s
          replace k_u := bk bc k_u
          replace k_q := bk bc k_q
          replace k_both := bk bc k_both
          replace k_n16 := bk bc k_n16
          replace bw := bst bc bw
          clear bc
          refine takx (i := 4) (D := 42) (v := .tuple #[.agg #[.int .i64 0, .int .i64 0, .int .i64 0, .int .i64 0], .bool false]) rfl rfl (by kernel_rfl) (by kernel_rfl) (by kernel_rfl) (fun _ _ _ h => h) (Or.inl ⟨by rfl, fun W hSw => by (try dsimp only at hSw); go_simp⟩) (by assumption) ?_
          (try simp only [List.setIfInBounds_toArray, List.set_cons_zero, List.set_cons_succ])
          refine takx (i := 5) (D := 47) (v := .agg #[.int .i64 0, .int .i64 0, .int .i64 0, .int .i64 0]) rfl rfl (by kernel_rfl) (by kernel_rfl) (by kernel_rfl) (fun _ _ _ h => h) (Or.inl ⟨by rfl, fun W hSw => by (try dsimp only at hSw); go_simp⟩) (by assumption) ?_
          (try simp only [List.setIfInBounds_toArray, List.set_cons_zero, List.set_cons_succ])
          refine takx (i := 6) (D := 48) (v := .bool false) rfl rfl (by kernel_rfl) (by kernel_rfl) (by kernel_rfl) (fun _ _ _ h => h) (Or.inl ⟨by rfl, fun W hSw => by (try dsimp only at hSw); go_simp⟩) (by assumption) ?_
          (try simp only [List.setIfInBounds_toArray, List.set_cons_zero, List.set_cons_succ])
          refine wpAnyH_ready (rs := [8]) (by kernel_rfl) (by simp) ?_
          refine (AllReadyH.cons rfl (fun K hK => ?_) AllReadyH.nil)
          have qq := q4c k_n16
          go_simp
          clear qq
          refine hK.out _ _ ⟨(cks ne_both_n16 (cks ne_both_n16 (cks ne_both_n16 (cks ne_both_n16 hHeld.1)))), (cks ne_both_n16 (cks ne_both_n16 (cks ne_both_n16 (cks ne_both_n16 hHeld.2.1)))), (cks ne_both_n16 (cks ne_both_n16 (cks ne_both_n16 (cks ne_both_n16 hHeld.2.2.1)))), (cks ne_both_n16 (cks ne_both_n16 (cks ne_both_n16 (cks ne_both_n16 hHeld.2.2.2.1)))), (cks ne_u_n16 (cks ne_u_n16 (cks ne_u_n16 (cks ne_u_n16 hHeld.2.2.2.2.1)))), (cks ne_u_n16 (cks ne_u_n16 (cks ne_u_n16 (cks ne_u_n16 hHeld.2.2.2.2.2.1)))), (cks ne_u_n16 (cks ne_u_n16 (cks ne_u_n16 (cks ne_u_n16 hHeld.2.2.2.2.2.2.1)))), (cks ne_u_n16 (cks ne_u_n16 (cks ne_u_n16 (cks ne_u_n16 hHeld.2.2.2.2.2.2.2))))⟩ (fun hHeld => ?_)
          clear hK K
          (try simp only [List.setIfInBounds_toArray, List.set_cons_zero, List.set_cons_succ])
          obtain ⟨X23, eY⟩ : ∃ Y, Y = ((((X22.setCell ⟨g21, 0, none⟩ (.int .i64 0)).setCell ⟨g21, 1, none⟩ (.int .i64 0)).setCell ⟨g21, 2, none⟩ (.int .i64 0)).setCell ⟨g21, 3, none⟩ (.int .i64 0)) := ⟨_, rfl⟩
          rw [← eY] at hHeld ⊢
          replace k_r : X23.heap[w.heap.size]? = some (.cells #[.int .i64 a, .int .i64 b, .int .i64 c, .int .i64 d] 23 (0, 0)) := by rw [eY]; exact (bks ne_r_n16 (bks ne_r_n16 (bks ne_r_n16 (bks ne_r_n16 k_r))))
          replace k_s : X23.heap[w.heap.size + 1]? = some (.cells #[.int .i64 s.a, .int .i64 s.b, .int .i64 s.c, .int .i64 s.d] 23 (0, 0)) := by rw [eY]; exact (bks ne_s_n16 (bks ne_s_n16 (bks ne_s_n16 (bks ne_s_n16 k_s))))
          replace k_u : X23.heap[w.heap.size + 2]? = some (.cells #[.int .i64 u.a, .int .i64 u.b, .int .i64 u.c, .int .i64 u.d] 23 (0, 0)) := by rw [eY]; exact (bks ne_u_n16 (bks ne_u_n16 (bks ne_u_n16 (bks ne_u_n16 k_u))))
          replace k_q : X23.heap[g_q]? = some (.cells #[.int .i64 a, .int .i64 b, .int .i64 c, .int .i64 d] 26 (0, 0)) := by rw [eY]; exact (bks ne_q_n16 (bks ne_q_n16 (bks ne_q_n16 (bks ne_q_n16 k_q))))
          replace k_both : X23.heap[g_both]? = some (.cells #[.int .i64 p1.a, .int .i64 p1.b, .int .i64 p1.c, .int .i64 p1.d] 26 (0, 0)) := by rw [eY]; exact (bks ne_both_n16 (bks ne_both_n16 (bks ne_both_n16 (bks ne_both_n16 k_both))))
          replace bw : Below w.heap.size w X23 := by rw [eY]; exact (bss lo_n16 (bss lo_n16 (bss lo_n16 (bss lo_n16 bw))))
          replace k_n16 : X23.heap[g21]? = some (.cells #[.int .i64 0, .int .i64 0, .int .i64 0, .int .i64 0] 26 (0, 0)) := by rw [eY]; exact q4s k_n16
          clear eY
          refine takx (i := 9) (D := 17) (v := .bool false) rfl rfl (by kernel_rfl) (by kernel_rfl) (by kernel_rfl) (fun _ _ _ h => h) (Or.inl ⟨by rfl, fun W hSw => by (try dsimp only at hSw); go_simp⟩) (by assumption) ?_
          (try simp only [List.setIfInBounds_toArray, List.set_cons_zero, List.set_cons_succ])
          refine wpAnyH_done (by kernel_rfl) ?_ _
          go_wp2_with fail
          go_meet
          exact ⟨_, rfl, rfl, k_n16, k_r, k_s, k_u, k_q, k_both, bw⟩
      · go_simp
        refine hK.out _ _ ⟨cka hHeld.1, cka hHeld.2.1, cka hHeld.2.2.1, cka hHeld.2.2.2.1, cka hHeld.2.2.2.2.1, cka hHeld.2.2.2.2.2.1, cka hHeld.2.2.2.2.2.2.1, cka hHeld.2.2.2.2.2.2.2⟩ (fun hHeld => ?_)
        clear hK K
        (try simp only [List.setIfInBounds_toArray, List.set_cons_zero, List.set_cons_succ])
        obtain ⟨X24, g24, eY, eg⟩ : ∃ Y g, Y = X16.alloc (.cells #[.int .i64 0, .int .i64 0, .int .i64 0, .int .i64 0] 26) ∧ g = X16.heap.size := ⟨_, _, rfl, rfl⟩
        rw [← eY, ← eg]
        rw [← eY] at hHeld
        have bc : Below X16.heap.size X16 X24 := by rw [eY]; exact (Below.refl _ _).alloc (Nat.le_refl _) _
        have k_n16 : X24.heap[g24]? = some (.cells #[.int .i64 0, .int .i64 0, .int .i64 0, .int .i64 0] 26 (0, 0)) := by rw [eY, eg]; exact heap_alloc_new X16 _
        have lo_n16 : w.heap.size ≤ g24 := by rw [eg]; exact bw.size
        have ne_r_n16 : ¬ w.heap.size = g24 := ne_new k_r eg
        have ne_s_n16 : ¬ w.heap.size + 1 = g24 := ne_new k_s eg
        have ne_u_n16 : ¬ w.heap.size + 2 = g24 := ne_new k_u eg
        have ne_q_n16 : ¬ g_q = g24 := ne_new k_q eg
        have ne_both_n16 : ¬ g_both = g24 := ne_new k_both eg
        replace k_r := bk bc k_r
        replace k_s := bk bc k_s
        replace k_u := bk bc k_u
        replace k_q := bk bc k_q
        replace k_both := bk bc k_both
        replace bw := bst bc bw
        clear bc eY eg
        refine wpAnyH_ready (rs := [2]) (by kernel_rfl) (by simp) ?_
        refine (AllReadyH.cons rfl (fun K hK => ?_) AllReadyH.nil)
        go_simp
        refine (toRect4 u.a u.b u.c u.d _).mono ?_
        rintro e X25 ⟨rfl, bc⟩
        refine hK.out _ _ ⟨ck bc hHeld.1, ck bc hHeld.2.1, ck bc hHeld.2.2.1, ck bc hHeld.2.2.2.1, ck bc hHeld.2.2.2.2.1, ck bc hHeld.2.2.2.2.2.1, ck bc hHeld.2.2.2.2.2.2.1, ck bc hHeld.2.2.2.2.2.2.2⟩ (fun hHeld => ?_)
        clear hK K
        (try simp only [List.setIfInBounds_toArray, List.set_cons_zero, List.set_cons_succ])
        replace k_r := bk bc k_r
        replace k_s := bk bc k_s
        replace k_u := bk bc k_u
        replace k_q := bk bc k_q
        replace k_both := bk bc k_both
        replace k_n16 := bk bc k_n16
        replace bw := bst bc bw
        clear bc
        refine wpAnyH_ready (rs := [3]) (by kernel_rfl) (by simp) ?_
        refine (AllReadyH.cons rfl (fun K hK => ?_) AllReadyH.nil)
        go_simp
        refine (common_none p1 u HC2.out _).mono ?_
        rintro e X26 ⟨rfl, bc⟩
        refine hK.out _ _ ⟨ck bc hHeld.1, ck bc hHeld.2.1, ck bc hHeld.2.2.1, ck bc hHeld.2.2.2.1, ck bc hHeld.2.2.2.2.1, ck bc hHeld.2.2.2.2.2.1, ck bc hHeld.2.2.2.2.2.2.1, ck bc hHeld.2.2.2.2.2.2.2⟩ (fun hHeld => ?_)
        clear hK K
        (try simp only [List.setIfInBounds_toArray, List.set_cons_zero, List.set_cons_succ])
        replace k_r := bk bc k_r
        replace k_s := bk bc k_s
        replace k_u := bk bc k_u
        replace k_q := bk bc k_q
        replace k_both := bk bc k_both
        replace k_n16 := bk bc k_n16
        replace bw := bst bc bw
        clear bc
        refine takx (i := 4) (D := 42) (v := .tuple #[.agg #[.int .i64 0, .int .i64 0, .int .i64 0, .int .i64 0], .bool false]) rfl rfl (by kernel_rfl) (by kernel_rfl) (by kernel_rfl) (fun _ _ _ h => h) (Or.inl ⟨by rfl, fun W hSw => by (try dsimp only at hSw); go_simp⟩) (by assumption) ?_
        (try simp only [List.setIfInBounds_toArray, List.set_cons_zero, List.set_cons_succ])
        refine takx (i := 5) (D := 47) (v := .agg #[.int .i64 0, .int .i64 0, .int .i64 0, .int .i64 0]) rfl rfl (by kernel_rfl) (by kernel_rfl) (by kernel_rfl) (fun _ _ _ h => h) (Or.inl ⟨by rfl, fun W hSw => by (try dsimp only at hSw); go_simp⟩) (by assumption) ?_
        (try simp only [List.setIfInBounds_toArray, List.set_cons_zero, List.set_cons_succ])
        refine takx (i := 6) (D := 48) (v := .bool false) rfl rfl (by kernel_rfl) (by kernel_rfl) (by kernel_rfl) (fun _ _ _ h => h) (Or.inl ⟨by rfl, fun W hSw => by (try dsimp only at hSw); go_simp⟩) (by assumption) ?_
        (try simp only [List.setIfInBounds_toArray, List.set_cons_zero, List.set_cons_succ])
        refine wpAnyH_ready (rs := [8]) (by kernel_rfl) (by simp) ?_
        refine (AllReadyH.cons rfl (fun K hK => ?_) AllReadyH.nil)
        have qq := q4c k_n16
        go_simp
        clear qq
        refine hK.out _ _ ⟨(cks ne_both_n16 (cks ne_both_n16 (cks ne_both_n16 (cks ne_both_n16 hHeld.1)))), (cks ne_both_n16 (cks ne_both_n16 (cks ne_both_n16 (cks ne_both_n16 hHeld.2.1)))), (cks ne_both_n16 (cks ne_both_n16 (cks ne_both_n16 (cks ne_both_n16 hHeld.2.2.1)))), (cks ne_both_n16 (cks ne_both_n16 (cks ne_both_n16 (cks ne_both_n16 hHeld.2.2.2.1)))), (cks ne_u_n16 (cks ne_u_n16 (cks ne_u_n16 (cks ne_u_n16 hHeld.2.2.2.2.1)))), (cks ne_u_n16 (cks ne_u_n16 (cks ne_u_n16 (cks ne_u_n16 hHeld.2.2.2.2.2.1)))), (cks ne_u_n16 (cks ne_u_n16 (cks ne_u_n16 (cks ne_u_n16 hHeld.2.2.2.2.2.2.1)))), (cks ne_u_n16 (cks ne_u_n16 (cks ne_u_n16 (cks ne_u_n16 hHeld.2.2.2.2.2.2.2))))⟩ (fun hHeld => ?_)
        clear hK K
        (try simp only [List.setIfInBounds_toArray, List.set_cons_zero, List.set_cons_succ])
        obtain ⟨X27, eY⟩ : ∃ Y, Y = ((((X26.setCell ⟨g24, 0, none⟩ (.int .i64 0)).setCell ⟨g24, 1, none⟩ (.int .i64 0)).setCell ⟨g24, 2, none⟩ (.int .i64 0)).setCell ⟨g24, 3, none⟩ (.int .i64 0)) := ⟨_, rfl⟩
        rw [← eY] at hHeld ⊢
        replace k_r : X27.heap[w.heap.size]? = some (.cells #[.int .i64 a, .int .i64 b, .int .i64 c, .int .i64 d] 23 (0, 0)) := by rw [eY]; exact (bks ne_r_n16 (bks ne_r_n16 (bks ne_r_n16 (bks ne_r_n16 k_r))))
        replace k_s : X27.heap[w.heap.size + 1]? = some (.cells #[.int .i64 s.a, .int .i64 s.b, .int .i64 s.c, .int .i64 s.d] 23 (0, 0)) := by rw [eY]; exact (bks ne_s_n16 (bks ne_s_n16 (bks ne_s_n16 (bks ne_s_n16 k_s))))
        replace k_u : X27.heap[w.heap.size + 2]? = some (.cells #[.int .i64 u.a, .int .i64 u.b, .int .i64 u.c, .int .i64 u.d] 23 (0, 0)) := by rw [eY]; exact (bks ne_u_n16 (bks ne_u_n16 (bks ne_u_n16 (bks ne_u_n16 k_u))))
        replace k_q : X27.heap[g_q]? = some (.cells #[.int .i64 a, .int .i64 b, .int .i64 c, .int .i64 d] 26 (0, 0)) := by rw [eY]; exact (bks ne_q_n16 (bks ne_q_n16 (bks ne_q_n16 (bks ne_q_n16 k_q))))
        replace k_both : X27.heap[g_both]? = some (.cells #[.int .i64 p1.a, .int .i64 p1.b, .int .i64 p1.c, .int .i64 p1.d] 26 (0, 0)) := by rw [eY]; exact (bks ne_both_n16 (bks ne_both_n16 (bks ne_both_n16 (bks ne_both_n16 k_both))))
        replace bw : Below w.heap.size w X27 := by rw [eY]; exact (bss lo_n16 (bss lo_n16 (bss lo_n16 (bss lo_n16 bw))))
        replace k_n16 : X27.heap[g24]? = some (.cells #[.int .i64 0, .int .i64 0, .int .i64 0, .int .i64 0] 26 (0, 0)) := by rw [eY]; exact q4s k_n16
        clear eY
        refine takx (i := 9) (D := 17) (v := .bool false) rfl rfl (by kernel_rfl) (by kernel_rfl) (by kernel_rfl) (fun _ _ _ h => h) (Or.inl ⟨by rfl, fun W hSw => by (try dsimp only at hSw); go_simp⟩) (by assumption) ?_
        (try simp only [List.setIfInBounds_toArray, List.set_cons_zero, List.set_cons_succ])
        refine wpAnyH_done (by kernel_rfl) ?_ _
        go_wp2_with fail
        go_meet
        exact ⟨_, rfl, rfl, k_n16, k_r, k_s, k_u, k_q, k_both, bw⟩
    case rest =>
      clear k_r k_s k_u k_q k_both bw
      obtain ⟨g_all, rfl, rfl, k_all, k_r, k_s, k_u, k_q, k_both, BW⟩ := hcut
      have bw := BW.out
      clear BW
      go_wp2
      go_ret
      exact ⟨rfl, bw⟩

set_option maxRecDepth 100000 in
set_option maxHeartbeats 4000000 in
theorem fnGrayPartOfPart_out (w : World) (q : Q4) (hq : q.ok) (Z : Option Addr) (n cp : Nat) (zs : List Int) (hr : Rd w w.heap.size Z n zs) (s : Q4) (hs : s.ok) (u : Q4) (hu : u.ok) (x : Int) (hx : I64 x) (y : Int) (hy : I64 y) (hf : Fine q.a q.b q.c q.d) (p1 : Q4) (hc1 : com q s = some p1) (p2 : Q4) (hc2 : com p1 u = some p2) (hin : ¬ In p2.a p2.b p2.c p2.d x y) :
    Calls Try.prog 19 #[q.val, .slice Z n cp, s.val, u.val, .int .i64 x, .int .i64 y] w fun e w' => e = .returned (.bool true) ∧ Below w.heap.size w w' := by
  obtain ⟨a, b, c, d⟩ := q
  obtain ⟨ha, hb, hc, hd⟩ := hq
  show Calls Try.prog 19 #[.agg #[.int .i64 a, .int .i64 b, .int .i64 c, .int .i64 d], .slice Z n cp, .agg #[.int .i64 s.a, .int .i64 s.b, .int .i64 s.c, .int .i64 s.d], .agg #[.int .i64 u.a, .int .i64 u.b, .int .i64 u.c, .int .i64 u.d], .int .i64 x, .int .i64 y] w _
  have hrs := rect_same a b c d
  have hrd := rect_diff a b c d
  have hp0 := fun st v => pfld0 a b c d st v
  have hp2 := fun st A n cp => pfld2 a b c d st A n cp
  have HR := Lib.hid hr
  clear hr
  obtain ⟨h3, h4, h5, h6, N, hN⟩ := fine_area hf
  have HF := Lib.hid hf
  have HN := Lib.hid hN
  clear hf hN
  have HC1 := Lib.hid hc1
  clear hc1
  have HC2 := Lib.hid hc2
  clear hc2
  have HI := Lib.hid hin
  clear hin
  go_enter Try.func19, Try.ntmps19
  go_wp2_with fail
  refine (toRect4 a b c d _).mono ?_
  rintro e w1 ⟨rfl, bc⟩
  have bw := bst bc (bsa (bsa (bsa (Below.refl _ _))))
  have k_r : w1.heap[w.heap.size]? = some (.cells #[.int .i64 a, .int .i64 b, .int .i64 c, .int .i64 d] 23 (0, 0)) := by have := bk bc (bka (bka (heap_alloc_new w _))); simpa using this
  have k_s : w1.heap[w.heap.size + 1]? = some (.cells #[.int .i64 s.a, .int .i64 s.b, .int .i64 s.c, .int .i64 s.d] 23 (0, 0)) := by have := bk bc (bka (heap_alloc_new (w.alloc (.cells #[.int .i64 a, .int .i64 b, .int .i64 c, .int .i64 d] 23)) _)); simpa using this
  have k_u : w1.heap[w.heap.size + 2]? = some (.cells #[.int .i64 u.a, .int .i64 u.b, .int .i64 u.c, .int .i64 u.d] 23 (0, 0)) := by have := bk bc (heap_alloc_new ((w.alloc (.cells #[.int .i64 a, .int .i64 b, .int .i64 c, .int .i64 d] 23)).alloc (.cells #[.int .i64 s.a, .int .i64 s.b, .int .i64 s.c, .int .i64 s.d] 23)) _); simpa using this
  clear bc
  go_upto_region 2 with fail
  obtain ⟨Y1, g_q, eY, eg⟩ : ∃ Y g, Y = w1.alloc (.cells #[.int .i64 a, .int .i64 b, .int .i64 c, .int .i64 d] 26) ∧ g = w1.heap.size := ⟨_, _, rfl, rfl⟩
  rw [← eY, ← eg]
  have bc : Below w1.heap.size w1 Y1 := by rw [eY]; exact (Below.refl _ _).alloc (Nat.le_refl _) _
  have k_q : Y1.heap[g_q]? = some (.cells #[.int .i64 a, .int .i64 b, .int .i64 c, .int .i64 d] 26 (0, 0)) := by rw [eY, eg]; exact heap_alloc_new w1 _
  replace k_r := bk bc k_r
  replace k_s := bk bc k_s
  replace k_u := bk bc k_u
  replace bw := bst bc bw
  clear bc eY eg
  go_cut [14, 15] (fun s14 s15 wx => ∃ (g_both : Nat), s14 = .pointer (some ⟨g_both, 0, none⟩) ∧ s15 = .bool true ∧ wx.heap[g_both]? = some (.cells #[.int .i64 p1.a, .int .i64 p1.b, .int .i64 p1.c, .int .i64 p1.d] 26 (0, 0)) ∧ wx.heap[w.heap.size]? = some (.cells #[.int .i64 a, .int .i64 b, .int .i64 c, .int .i64 d] 23 (0, 0)) ∧ wx.heap[w.heap.size + 1]? = some (.cells #[.int .i64 s.a, .int .i64 s.b, .int .i64 s.c, .int .i64 s.d] 23 (0, 0)) ∧ wx.heap[w.heap.size + 2]? = some (.cells #[.int .i64 u.a, .int .i64 u.b, .int .i64 u.c, .int .i64 u.d] 23 (0, 0)) ∧ wx.heap[g_q]? = some (.cells #[.int .i64 a, .int .i64 b, .int .i64 c, .int .i64 d] 26 (0, 0)) ∧ Hid (Below w.heap.size w wx))
  case first =>
    refine wp_region_held_drew (S := fun w' => w'.cell? ⟨g_q, 0, none⟩ = some (.int .i64 a) ∧ w'.cell? ⟨g_q, 1, none⟩ = some (.int .i64 b) ∧ w'.cell? ⟨g_q, 2, none⟩ = some (.int .i64 c) ∧ w'.cell? ⟨g_q, 3, none⟩ = some (.int .i64 d) ∧ w'.cell? ⟨w.heap.size + 1, 0, none⟩ = some (.int .i64 s.a) ∧ w'.cell? ⟨w.heap.size + 1, 1, none⟩ = some (.int .i64 s.b) ∧ w'.cell? ⟨w.heap.size + 1, 2, none⟩ = some (.int .i64 s.c) ∧ w'.cell? ⟨w.heap.size + 1, 3, none⟩ = some (.int .i64 s.d)) (by kernel_rfl) ⟨(q4c k_q).1.1, (q4c k_q).1.2.1, (q4c k_q).1.2.2.1, (q4c k_q).1.2.2.2, (q4c k_s).1.1, (q4c k_s).1.2.1, (q4c k_s).1.2.2.1, (q4c k_s).1.2.2.2⟩ ?_
    intro hHeld
    obtain ⟨X2, eX, bc⟩ : ∃ X, X = Y1.drew ∧ Below Y1.heap.size Y1 X := ⟨_, rfl, (Below.refl _ _).drew⟩
    rw [← eX] at hHeld ⊢
    replace k_r := bk bc k_r
    replace k_s := bk bc k_s
    replace k_u := bk bc k_u
    replace k_q := bk bc k_q
    replace bw := bst bc bw
    clear eX bc
    refine takx (i := 0) (D := 29) (v := .agg #[.int .i64 a, .int .i64 b, .int .i64 c, .int .i64 d]) rfl rfl (by kernel_rfl) (by kernel_rfl) (by kernel_rfl) (fun _ _ _ h => h) (Or.inl ⟨by rfl, fun W hSw => by (try dsimp only at hSw); go_simp⟩) (by assumption) ?_
    (try simp only [List.setIfInBounds_toArray, List.set_cons_zero, List.set_cons_succ])
    refine takx (i := 1) (D := 30) (v := .agg #[.int .i64 s.a, .int .i64 s.b, .int .i64 s.c, .int .i64 s.d]) rfl rfl (by kernel_rfl) (by kernel_rfl) (by kernel_rfl) (fun _ _ _ h => h) (Or.inl ⟨by rfl, fun W hSw => by (try dsimp only at hSw); go_simp⟩) (by assumption) ?_
    (try simp only [List.setIfInBounds_toArray, List.set_cons_zero, List.set_cons_succ])
    refine wpAnyH_ready (rs := [2, 7]) (by kernel_rfl) (by simp) ?_
    refine (AllReadyH.cons rfl (fun K hK => ?_) (AllReadyH.cons rfl (fun K hK => ?_) AllReadyH.nil))
    · go_simp
      refine (toRect4 s.a s.b s.c s.d _).mono ?_
      rintro e X3 ⟨rfl, bc⟩
      refine hK.out _ _ ⟨ck bc hHeld.1, ck bc hHeld.2.1, ck bc hHeld.2.2.1, ck bc hHeld.2.2.2.1, ck bc hHeld.2.2.2.2.1, ck bc hHeld.2.2.2.2.2.1, ck bc hHeld.2.2.2.2.2.2.1, ck bc hHeld.2.2.2.2.2.2.2⟩ (fun hHeld => ?_)
      clear hK K
      (try simp only [List.setIfInBounds_toArray, List.set_cons_zero, List.set_cons_succ])
      replace k_r := bk bc k_r
      replace k_s := bk bc k_s
      replace k_u := bk bc k_u
      replace k_q := bk bc k_q
      replace bw := bst bc bw
      clear bc
      refine wpAnyH_ready (rs := [3, 7]) (by kernel_rfl) (by simp) ?_
      refine (AllReadyH.cons rfl (fun K hK => ?_) (AllReadyH.cons rfl (fun K hK => ?_) AllReadyH.nil))
      · go_simp
        refine (common_some ⟨a, b, c, d⟩ s p1 HC1.out _).mono ?_
        rintro e X4 ⟨rfl, bc⟩
        refine hK.out _ _ ⟨ck bc hHeld.1, ck bc hHeld.2.1, ck bc hHeld.2.2.1, ck bc hHeld.2.2.2.1, ck bc hHeld.2.2.2.2.1, ck bc hHeld.2.2.2.2.2.1, ck bc hHeld.2.2.2.2.2.2.1, ck bc hHeld.2.2.2.2.2.2.2⟩ (fun hHeld => ?_)
        clear hK K
        (try simp only [List.setIfInBounds_toArray, List.set_cons_zero, List.set_cons_succ])
        replace k_r := bk bc k_r
        replace k_s := bk bc k_s
        replace k_u := bk bc k_u
        replace k_q := bk bc k_q
        replace bw := bst bc bw
        clear bc
        refine takx (i := 4) (D := 28) (v := .tuple #[.agg #[.int .i64 p1.a, .int .i64 p1.b, .int .i64 p1.c, .int .i64 p1.d], .bool true]) rfl rfl (by kernel_rfl) (by kernel_rfl) (by kernel_rfl) (fun _ _ _ h => h) (Or.inl ⟨by rfl, fun W hSw => by (try dsimp only at hSw); go_simp⟩) (by assumption) ?_
        (try simp only [List.setIfInBounds_toArray, List.set_cons_zero, List.set_cons_succ])
        refine takx (i := 5) (D := 33) (v := .agg #[.int .i64 p1.a, .int .i64 p1.b, .int .i64 p1.c, .int .i64 p1.d]) rfl rfl (by kernel_rfl) (by kernel_rfl) (by kernel_rfl) (fun _ _ _ h => h) (Or.inl ⟨by rfl, fun W hSw => by (try dsimp only at hSw); go_simp⟩) (by assumption) ?_
        (try simp only [List.setIfInBounds_toArray, List.set_cons_zero, List.set_cons_succ])
        refine takx (i := 6) (D := 34) (v := .bool true) rfl rfl (by kernel_rfl) (by kernel_rfl) (by kernel_rfl) (fun _ _ _ h => h) (Or.inl ⟨by rfl, fun W hSw => by (try dsimp only at hSw); go_simp⟩) (by assumption) ?_
        (try simp only [List.setIfInBounds_toArray, List.set_cons_zero, List.set_cons_succ])
        refine wpAnyH_ready (rs := [7]) (by kernel_rfl) (by simp) ?_
        refine (AllReadyH.cons rfl (fun K hK => ?_) AllReadyH.nil)
        go_simp
        refine hK.out _ _ ⟨cka hHeld.1, cka hHeld.2.1, cka hHeld.2.2.1, cka hHeld.2.2.2.1, cka hHeld.2.2.2.2.1, cka hHeld.2.2.2.2.2.1, cka hHeld.2.2.2.2.2.2.1, cka hHeld.2.2.2.2.2.2.2⟩ (fun hHeld => ?_)
        clear hK K
        (try simp only [List.setIfInBounds_toArray, List.set_cons_zero, List.set_cons_succ])
        obtain ⟨X5, g5, eY, eg⟩ : ∃ Y g, Y = X4.alloc (.cells #[.int .i64 0, .int .i64 0, .int .i64 0, .int .i64 0] 26) ∧ g = X4.heap.size := ⟨_, _, rfl, rfl⟩
        rw [← eY, ← eg]
        rw [← eY] at hHeld
        have bc : Below X4.heap.size X4 X5 := by rw [eY]; exact (Below.refl _ _).alloc (Nat.le_refl _) _
        have k_n14 : X5.heap[g5]? = some (.cells #[.int .i64 0, .int .i64 0, .int .i64 0, .int .i64 0] 26 (0, 0)) := by rw [eY, eg]; exact heap_alloc_new X4 _
        have lo_n14 : w.heap.size ≤ g5 := by rw [eg]; exact bw.size
        have ne_r_n14 : ¬ w.heap.size = g5 := ne_new k_r eg
        have ne_s_n14 : ¬ w.heap.size + 1 = g5 := ne_new k_s eg
        have ne_u_n14 : ¬ w.heap.size + 2 = g5 := ne_new k_u eg
        have ne_q_n14 : ¬ g_q = g5 := ne_new k_q eg
        replace k_r := bk bc k_r
        replace k_s := bk bc k_s
        replace k_u := bk bc k_u
        replace k_q := bk bc k_q
        replace bw := bst bc bw
        clear bc eY eg
        refine wpAnyH_ready (rs := [8]) (by kernel_rfl) (by simp) ?_
        refine (AllReadyH.cons rfl (fun K hK => ?_) AllReadyH.nil)
        have qq := q4c k_n14
        go_simp
        clear qq
        refine hK.out _ _ ⟨(cks ne_q_n14 (cks ne_q_n14 (cks ne_q_n14 (cks ne_q_n14 hHeld.1)))), (cks ne_q_n14 (cks ne_q_n14 (cks ne_q_n14 (cks ne_q_n14 hHeld.2.1)))), (cks ne_q_n14 (cks ne_q_n14 (cks ne_q_n14 (cks ne_q_n14 hHeld.2.2.1)))), (cks ne_q_n14 (cks ne_q_n14 (cks ne_q_n14 (cks ne_q_n14 hHeld.2.2.2.1)))), (cks ne_s_n14 (cks ne_s_n14 (cks ne_s_n14 (cks ne_s_n14 hHeld.2.2.2.2.1)))), (cks ne_s_n14 (cks ne_s_n14 (cks ne_s_n14 (cks ne_s_n14 hHeld.2.2.2.2.2.1)))), (cks ne_s_n14 (cks ne_s_n14 (cks ne_s_n14 (cks ne_s_n14 hHeld.2.2.2.2.2.2.1)))), (cks ne_s_n14 (cks ne_s_n14 (cks ne_s_n14 (cks ne_s_n14 hHeld.2.2.2.2.2.2.2))))⟩ (fun hHeld => ?_)
        clear hK K
        (try simp only [List.setIfInBounds_toArray, List.set_cons_zero, List.set_cons_succ])
        obtain ⟨X6, eY⟩ : ∃ Y, Y = ((((X5.setCell ⟨g5, 0, none⟩ (.int .i64 p1.a)).setCell ⟨g5, 1, none⟩ (.int .i64 p1.b)).setCell ⟨g5, 2, none⟩ (.int .i64 p1.c)).setCell ⟨g5, 3, none⟩ (.int .i64 p1.d)) := ⟨_, rfl⟩
        rw [← eY] at hHeld ⊢
        replace k_r : X6.heap[w.heap.size]? = some (.cells #[.int .i64 a, .int .i64 b, .int .i64 c, .int .i64 d] 23 (0, 0)) := by rw [eY]; exact (bks ne_r_n14 (bks ne_r_n14 (bks ne_r_n14 (bks ne_r_n14 k_r))))
        replace k_s : X6.heap[w.heap.size + 1]? = some (.cells #[.int .i64 s.a, .int .i64 s.b, .int .i64 s.c, .int .i64 s.d] 23 (0, 0)) := by rw [eY]; exact (bks ne_s_n14 (bks ne_s_n14 (bks ne_s_n14 (bks ne_s_n14 k_s))))
        replace k_u : X6.heap[w.heap.size + 2]? = some (.cells #[.int .i64 u.a, .int .i64 u.b, .int .i64 u.c, .int .i64 u.d] 23 (0, 0)) := by rw [eY]; exact (bks ne_u_n14 (bks ne_u_n14 (bks ne_u_n14 (bks ne_u_n14 k_u))))
        replace k_q : X6.heap[g_q]? = some (.cells #[.int .i64 a, .int .i64 b, .int .i64 c, .int .i64 d] 26 (0, 0)) := by rw [eY]; exact (bks ne_q_n14 (bks ne_q_n14 (bks ne_q_n14 (bks ne_q_n14 k_q))))
        replace bw : Below w.heap.size w X6 := by rw [eY]; exact (bss lo_n14 (bss lo_n14 (bss lo_n14 (bss lo_n14 bw))))
        replace k_n14 : X6.heap[g5]? = some (.cells #[.int .i64 p1.a, .int .i64 p1.b, .int .i64 p1.c, .int .i64 p1.d] 26 (0, 0)) := by rw [eY]; exact q4s k_n14
        clear eY
        refine takx (i := 9) (D := 15) (v := .bool true) rfl rfl (by kernel_rfl) (by kernel_rfl) (by kernel_rfl) (fun _ _ _ h => h) (Or.inl ⟨by rfl, fun W hSw => by (try dsimp only at hSw); go_simp⟩) (by assumption) ?_
        (try simp only [List.setIfInBounds_toArray, List.set_cons_zero, List.set_cons_succ])
        refine wpAnyH_done (by kernel_rfl) ?_ _
        go_wp2_with fail
        go_meet
        exact ⟨_, rfl, rfl, k_n14, k_r, k_s, k_u, k_q, bw⟩
      · go_simp
        refine hK.out _ _ ⟨cka hHeld.1, cka hHeld.2.1, cka hHeld.2.2.1, cka hHeld.2.2.2.1, cka hHeld.2.2.2.2.1, cka hHeld.2.2.2.2.2.1, cka hHeld.2.2.2.2.2.2.1, cka hHeld.2.2.2.2.2.2.2⟩ (fun hHeld => ?_)
        clear hK K
        (try simp only [List.setIfInBounds_toArray, List.set_cons_zero, List.set_cons_succ])
        obtain ⟨X7, g7, eY, eg⟩ : ∃ Y g, Y = X3.alloc (.cells #[.int .i64 0, .int .i64 0, .int .i64 0, .int .i64 0] 26) ∧ g = X3.heap.size := ⟨_, _, rfl, rfl⟩
        rw [← eY, ← eg]
        rw [← eY] at hHeld
        have bc : Below X3.heap.size X3 X7 := by rw [eY]; exact (Below.refl _ _).alloc (Nat.le_refl _) _
        have k_n14 : X7.heap[g7]? = some (.cells #[.int .i64 0, .int .i64 0, .int .i64 0, .int .i64 0] 26 (0, 0)) := by rw [eY, eg]; exact heap_alloc_new X3 _
        have lo_n14 : w.heap.size ≤ g7 := by rw [eg]; exact bw.size
        have ne_r_n14 : ¬ w.heap.size = g7 := ne_new k_r eg
        have ne_s_n14 : ¬ w.heap.size + 1 = g7 := ne_new k_s eg
        have ne_u_n14 : ¬ w.heap.size + 2 = g7 := ne_new k_u eg
        have ne_q_n14 : ¬ g_q = g7 := ne_new k_q eg
        replace k_r := bk bc k_r
        replace k_s := bk bc k_s
        replace k_u := bk bc k_u
        replace k_q := bk bc k_q
        replace bw := bst bc bw
        clear bc eY eg
        refine wpAnyH_ready (rs := [3]) (by kernel_rfl) (by simp) ?_
        refine (AllReadyH.cons rfl (fun K hK => ?_) AllReadyH.nil)
        go_simp
        refine (common_some ⟨a, b, c, d⟩ s p1 HC1.out _).mono ?_
        rintro e X8 ⟨rfl, bc⟩
        refine hK.out _ _ ⟨ck bc hHeld.1, ck bc hHeld.2.1, ck bc hHeld.2.2.1, ck bc hHeld.2.2.2.1, ck bc hHeld.2.2.2.2.1, ck bc hHeld.2.2.2.2.2.1, ck bc hHeld.2.2.2.2.2.2.1, ck bc hHeld.2.2.2.2.2.2.2⟩ (fun hHeld => ?_)
        clear hK K
        (try simp only [List.setIfInBounds_toArray, List.set_cons_zero, List.set_cons_succ])
        replace k_r := bk bc k_r
        replace k_s := bk bc k_s
        replace k_u := bk bc k_u
        replace k_q := bk bc k_q
        replace k_n14 := bk bc k_n14
        replace bw := bst bc bw
        clear bc
        refine takx (i := 4) (D := 28) (v := .tuple #[.agg #[.int .i64 p1.a, .int .i64 p1.b, .int .i64 p1.c, .int .i64 p1.d], .bool true]) rfl rfl (by kernel_rfl) (by kernel_rfl) (by kernel_rfl) (fun _ _ _ h => h) (Or.inl ⟨by rfl, fun W hSw => by (try dsimp only at hSw); go_simp⟩) (by assumption) ?_
        (try simp only [List.setIfInBounds_toArray, List.set_cons_zero, List.set_cons_succ])
        refine takx (i := 5) (D := 33) (v := .agg #[.int .i64 p1.a, .int .i64 p1.b, .int .i64 p1.c, .int .i64 p1.d]) rfl rfl (by kernel_rfl) (by kernel_rfl) (by kernel_rfl) (fun _ _ _ h => h) (Or.inl ⟨by rfl, fun W hSw => by (try dsimp only at hSw); go_simp⟩) (by assumption) ?_
        (try simp only [List.setIfInBounds_toArray, List.set_cons_zero, List.set_cons_succ])
        refine takx (i := 6) (D := 34) (v := .bool true) rfl rfl (by kernel_rfl) (by kernel_rfl) (by kernel_rfl) (fun _ _ _ h => h) (Or.inl ⟨by rfl, fun W hSw => by (try dsimp only at hSw); go_simp⟩) (by assumption) ?_
        (try simp only [List.setIfInBounds_toArray, List.set_cons_zero, List.set_cons_succ])
        refine wpAnyH_ready (rs := [8]) (by kernel_rfl) (by simp) ?_
        refine (AllReadyH.cons rfl (fun K hK => ?_) AllReadyH.nil)
        have qq := q4c k_n14
        go_simp
        clear qq
        refine hK.out _ _ ⟨(cks ne_q_n14 (cks ne_q_n14 (cks ne_q_n14 (cks ne_q_n14 hHeld.1)))), (cks ne_q_n14 (cks ne_q_n14 (cks ne_q_n14 (cks ne_q_n14 hHeld.2.1)))), (cks ne_q_n14 (cks ne_q_n14 (cks ne_q_n14 (cks ne_q_n14 hHeld.2.2.1)))), (cks ne_q_n14 (cks ne_q_n14 (cks ne_q_n14 (cks ne_q_n14 hHeld.2.2.2.1)))), (cks ne_s_n14 (cks ne_s_n14 (cks ne_s_n14 (cks ne_s_n14 hHeld.2.2.2.2.1)))), (cks ne_s_n14 (cks ne_s_n14 (cks ne_s_n14 (cks ne_s_n14 hHeld.2.2.2.2.2.1)))), (cks ne_s_n14 (cks ne_s_n14 (cks ne_s_n14 (cks ne_s_n14 hHeld.2.2.2.2.2.2.1)))), (cks ne_s_n14 (cks ne_s_n14 (cks ne_s_n14 (cks ne_s_n14 hHeld.2.2.2.2.2.2.2))))⟩ (fun hHeld => ?_)
        clear hK K
        (try simp only [List.setIfInBounds_toArray, List.set_cons_zero, List.set_cons_succ])
        obtain ⟨X9, eY⟩ : ∃ Y, Y = ((((X8.setCell ⟨g7, 0, none⟩ (.int .i64 p1.a)).setCell ⟨g7, 1, none⟩ (.int .i64 p1.b)).setCell ⟨g7, 2, none⟩ (.int .i64 p1.c)).setCell ⟨g7, 3, none⟩ (.int .i64 p1.d)) := ⟨_, rfl⟩
        rw [← eY] at hHeld ⊢
        replace k_r : X9.heap[w.heap.size]? = some (.cells #[.int .i64 a, .int .i64 b, .int .i64 c, .int .i64 d] 23 (0, 0)) := by rw [eY]; exact (bks ne_r_n14 (bks ne_r_n14 (bks ne_r_n14 (bks ne_r_n14 k_r))))
        replace k_s : X9.heap[w.heap.size + 1]? = some (.cells #[.int .i64 s.a, .int .i64 s.b, .int .i64 s.c, .int .i64 s.d] 23 (0, 0)) := by rw [eY]; exact (bks ne_s_n14 (bks ne_s_n14 (bks ne_s_n14 (bks ne_s_n14 k_s))))
        replace k_u : X9.heap[w.heap.size + 2]? = some (.cells #[.int .i64 u.a, .int .i64 u.b, .int .i64 u.c, .int .i64 u.d] 23 (0, 0)) := by rw [eY]; exact (bks ne_u_n14 (bks ne_u_n14 (bks ne_u_n14 (bks ne_u_n14 k_u))))
        replace k_q : X9.heap[g_q]? = some (.cells #[.int .i64 a, .int .i64 b, .int .i64 c, .int .i64 d] 26 (0, 0)) := by rw [eY]; exact (bks ne_q_n14 (bks ne_q_n14 (bks ne_q_n14 (bks ne_q_n14 k_q))))
        replace bw : Below w.heap.size w X9 := by rw [eY]; exact (bss lo_n14 (bss lo_n14 (bss lo_n14 (bss lo_n14 bw))))
        replace k_n14 : X9.heap[g7]? = some (.cells #[.int .i64 p1.a, .int .i64 p1.b, .int .i64 p1.c, .int .i64 p1.d] 26 (0, 0)) := by rw [eY]; exact q4s k_n14
        clear eY
        refine takx (i := 9) (D := 15) (v := .bool true) rfl rfl (by kernel_rfl) (by kernel_rfl) (by kernel_rfl) (fun _ _ _ h => h) (Or.inl ⟨by rfl, fun W hSw => by (try dsimp only at hSw); go_simp⟩) (by assumption) ?_
        (try simp only [List.setIfInBounds_toArray, List.set_cons_zero, List.set_cons_succ])
        refine wpAnyH_done (by kernel_rfl) ?_ _
        go_wp2_with fail
        go_meet
        exact ⟨_, rfl, rfl, k_n14, k_r, k_s, k_u, k_q, bw⟩
    · go_simp
      refine hK.out _ _ ⟨cka hHeld.1, cka hHeld.2.1, cka hHeld.2.2.1, cka hHeld.2.2.2.1, cka hHeld.2.2.2.2.1, cka hHeld.2.2.2.2.2.1, cka hHeld.2.2.2.2.2.2.1, cka hHeld.2.2.2.2.2.2.2⟩ (fun hHeld => ?_)
      clear hK K
      (try simp only [List.setIfInBounds_toArray, List.set_cons_zero, List.set_cons_succ])
      obtain ⟨X10, g10, eY, eg⟩ : ∃ Y g, Y = X2.alloc (.cells #[.int .i64 0, .int .i64 0, .int .i64 0, .int .i64 0] 26) ∧ g = X2.heap.size := ⟨_, _, rfl, rfl⟩
      rw [← eY, ← eg]
      rw [← eY] at hHeld
      have bc : Below X2.heap.size X2 X10 := by rw [eY]; exact (Below.refl _ _).alloc (Nat.le_refl _) _
      have k_n14 : X10.heap[g10]? = some (.cells #[.int .i64 0, .int .i64 0, .int .i64 0, .int .i64 0] 26 (0, 0)) := by rw [eY, eg]; exact heap_alloc_new X2 _
      have lo_n14 : w.heap.size ≤ g10 := by rw [eg]; exact bw.size
      have ne_r_n14 : ¬ w.heap.size = g10 := ne_new k_r eg
      have ne_s_n14 : ¬ w.heap.size + 1 = g10 := ne_new k_s eg
      have ne_u_n14 : ¬ w.heap.size + 2 = g10 := ne_new k_u eg
      have ne_q_n14 : ¬ g_q = g10 := ne_new k_q eg
      replace k_r := bk bc k_r
      replace k_s := bk bc k_s
      replace k_u := bk bc k_u
      replace k_q := bk bc k_q
      replace bw := bst bc bw
      clear bc eY eg
      refine wpAnyH_ready (rs := [2]) (by kernel_rfl) (by simp) ?_
      refine (AllReadyH.cons rfl (fun K hK => ?_) AllReadyH.nil)
      go_simp
      refine (toRect4 s.a s.b s.c s.d _).mono ?_
      rintro e X11 ⟨rfl, bc⟩
      refine hK.out _ _ ⟨ck bc hHeld.1, ck bc hHeld.2.1, ck bc hHeld.2.2.1, ck bc hHeld.2.2.2.1, ck bc hHeld.2.2.2.2.1, ck bc hHeld.2.2.2.2.2.1, ck bc hHeld.2.2.2.2.2.2.1, ck bc hHeld.2.2.2.2.2.2.2⟩ (fun hHeld => ?_)
      clear hK K
      (try simp only [List.setIfInBounds_toArray, List.set_cons_zero, List.set_cons_succ])
      replace k_r := bk bc k_r
      replace k_s := bk bc k_s
      replace k_u := bk bc k_u
      replace k_q := bk bc k_q
      replace k_n14 := bk bc k_n14
      replace bw := bst bc bw
      clear bc
      refine wpAnyH_ready (rs := [3]) (by kernel_rfl) (by simp) ?_
      refine (AllReadyH.cons rfl (fun K hK => ?_) AllReadyH.nil)
      go_simp
      refine (common_some ⟨a, b, c, d⟩ s p1 HC1.out _).mono ?_
      rintro e X12 ⟨rfl, bc⟩
      refine hK.out _ _ ⟨ck bc hHeld.1, ck bc hHeld.2.1, ck bc hHeld.2.2.1, ck bc hHeld.2.2.2.1, ck bc hHeld.2.2.2.2.1, ck bc hHeld.2.2.2.2.2.1, ck bc hHeld.2.2.2.2.2.2.1, ck bc hHeld.2.2.2.2.2.2.2⟩ (fun hHeld => ?_)
      clear hK K
      (try simp only [List.setIfInBounds_toArray, List.set_cons_zero, List.set_cons_succ])
      replace k_r := bk bc k_r
      replace k_s := bk bc k_s
      replace k_u := bk bc k_u
      replace k_q := bk bc k_q
      replace k_n14 := bk bc k_n14
      replace bw := bst bc bw
      clear bc
      refine takx (i := 4) (D := 28) (v := .tuple #[.agg #[.int .i64 p1.a, .int .i64 p1.b, .int .i64 p1.c, .int .i64 p1.d], .bool true]) rfl rfl (by kernel_rfl) (by kernel_rfl) (by kernel_rfl) (fun _ _ _ h => h) (Or.inl ⟨by rfl, fun W hSw => by (try dsimp only at hSw); go_simp⟩) (by assumption) ?_
      (try simp only [List.setIfInBounds_toArray, List.set_cons_zero, List.set_cons_succ])
      refine takx (i := 5) (D := 33) (v := .agg #[.int .i64 p1.a, .int .i64 p1.b, .int .i64 p1.c, .int .i64 p1.d]) rfl rfl (by kernel_rfl) (by kernel_rfl) (by kernel_rfl) (fun _ _ _ h => h) (Or.inl ⟨by rfl, fun W hSw => by (try dsimp only at hSw); go_simp⟩) (by assumption) ?_
      (try simp only [List.setIfInBounds_toArray, List.set_cons_zero, List.set_cons_succ])
      refine takx (i := 6) (D := 34) (v := .bool true) rfl rfl (by kernel_rfl) (by kernel_rfl) (by kernel_rfl) (fun _ _ _ h => h) (Or.inl ⟨by rfl, fun W hSw => by (try dsimp only at hSw); go_simp⟩) (by assumption) ?_
      (try simp only [List.setIfInBounds_toArray, List.set_cons_zero, List.set_cons_succ])
      refine wpAnyH_ready (rs := [8]) (by kernel_rfl) (by simp) ?_
      refine (AllReadyH.cons rfl (fun K hK => ?_) AllReadyH.nil)
      have qq := q4c k_n14
      go_simp
      clear qq
      refine hK.out _ _ ⟨(cks ne_q_n14 (cks ne_q_n14 (cks ne_q_n14 (cks ne_q_n14 hHeld.1)))), (cks ne_q_n14 (cks ne_q_n14 (cks ne_q_n14 (cks ne_q_n14 hHeld.2.1)))), (cks ne_q_n14 (cks ne_q_n14 (cks ne_q_n14 (cks ne_q_n14 hHeld.2.2.1)))), (cks ne_q_n14 (cks ne_q_n14 (cks ne_q_n14 (cks ne_q_n14 hHeld.2.2.2.1)))), (cks ne_s_n14 (cks ne_s_n14 (cks ne_s_n14 (cks ne_s_n14 hHeld.2.2.2.2.1)))), (cks ne_s_n14 (cks ne_s_n14 (cks ne_s_n14 (cks ne_s_n14 hHeld.2.2.2.2.2.1)))), (cks ne_s_n14 (cks ne_s_n14 (cks ne_s_n14 (cks ne_s_n14 hHeld.2.2.2.2.2.2.1)))), (cks ne_s_n14 (cks ne_s_n14 (cks ne_s_n14 (cks ne_s_n14 hHeld.2.2.2.2.2.2.2))))⟩ (fun hHeld => ?_)
      clear hK K
      (try simp only [List.setIfInBounds_toArray, List.set_cons_zero, List.set_cons_succ])
      obtain ⟨X13, eY⟩ : ∃ Y, Y = ((((X12.setCell ⟨g10, 0, none⟩ (.int .i64 p1.a)).setCell ⟨g10, 1, none⟩ (.int .i64 p1.b)).setCell ⟨g10, 2, none⟩ (.int .i64 p1.c)).setCell ⟨g10, 3, none⟩ (.int .i64 p1.d)) := ⟨_, rfl⟩
      rw [← eY] at hHeld ⊢
      replace k_r : X13.heap[w.heap.size]? = some (.cells #[.int .i64 a, .int .i64 b, .int .i64 c, .int .i64 d] 23 (0, 0)) := by rw [eY]; exact (bks ne_r_n14 (bks ne_r_n14 (bks ne_r_n14 (bks ne_r_n14 k_r))))
      replace k_s : X13.heap[w.heap.size + 1]? = some (.cells #[.int .i64 s.a, .int .i64 s.b, .int .i64 s.c, .int .i64 s.d] 23 (0, 0)) := by rw [eY]; exact (bks ne_s_n14 (bks ne_s_n14 (bks ne_s_n14 (bks ne_s_n14 k_s))))
      replace k_u : X13.heap[w.heap.size + 2]? = some (.cells #[.int .i64 u.a, .int .i64 u.b, .int .i64 u.c, .int .i64 u.d] 23 (0, 0)) := by rw [eY]; exact (bks ne_u_n14 (bks ne_u_n14 (bks ne_u_n14 (bks ne_u_n14 k_u))))
      replace k_q : X13.heap[g_q]? = some (.cells #[.int .i64 a, .int .i64 b, .int .i64 c, .int .i64 d] 26 (0, 0)) := by rw [eY]; exact (bks ne_q_n14 (bks ne_q_n14 (bks ne_q_n14 (bks ne_q_n14 k_q))))
      replace bw : Below w.heap.size w X13 := by rw [eY]; exact (bss lo_n14 (bss lo_n14 (bss lo_n14 (bss lo_n14 bw))))
      replace k_n14 : X13.heap[g10]? = some (.cells #[.int .i64 p1.a, .int .i64 p1.b, .int .i64 p1.c, .int .i64 p1.d] 26 (0, 0)) := by rw [eY]; exact q4s k_n14
      clear eY
      refine takx (i := 9) (D := 15) (v := .bool true) rfl rfl (by kernel_rfl) (by kernel_rfl) (by kernel_rfl) (fun _ _ _ h => h) (Or.inl ⟨by rfl, fun W hSw => by (try dsimp only at hSw); go_simp⟩) (by assumption) ?_
      (try simp only [List.setIfInBounds_toArray, List.set_cons_zero, List.set_cons_succ])
      refine wpAnyH_done (by kernel_rfl) ?_ _
      go_wp2_with fail
      go_meet
      exact ⟨_, rfl, rfl, k_n14, k_r, k_s, k_u, k_q, bw⟩
  case rest =>
    clear k_r k_s k_u k_q bw
    obtain ⟨g_both, rfl, rfl, k_both, k_r, k_s, k_u, k_q, BW⟩ := hcut
    have bw := BW.out
    clear BW
    have q_r := q4c k_r
    have q_s := q4c k_s
    have q_u := q4c k_u
    have q_q := q4c k_q
    have q_both := q4c k_both
    go_wp2_with fail
    refine (fine_yes a b c d HF.out _).mono ?_
    rintro e Y15 ⟨rfl, bc⟩
    clear q_r q_s q_u q_q q_both
    replace k_r := bk bc k_r
    replace k_s := bk bc k_s
    replace k_u := bk bc k_u
    replace k_q := bk bc k_q
    replace k_both := bk bc k_both
    replace bw := bst bc bw
    clear bc
    have q_r := q4c k_r
    have q_s := q4c k_s
    have q_u := q4c k_u
    have q_q := q4c k_q
    have q_both := q4c k_both
    go_upto_region 5 with fail
    clear q_r q_s q_u q_q q_both
    go_cut [16, 17] (fun s16 s17 wx => ∃ (g_all : Nat), s16 = .pointer (some ⟨g_all, 0, none⟩) ∧ s17 = .bool true ∧ wx.heap[g_all]? = some (.cells #[.int .i64 p2.a, .int .i64 p2.b, .int .i64 p2.c, .int .i64 p2.d] 26 (0, 0)) ∧ wx.heap[w.heap.size]? = some (.cells #[.int .i64 a, .int .i64 b, .int .i64 c, .int .i64 d] 23 (0, 0)) ∧ wx.heap[w.heap.size + 1]? = some (.cells #[.int .i64 s.a, .int .i64 s.b, .int .i64 s.c, .int .i64 s.d] 23 (0, 0)) ∧ wx.heap[w.heap.size + 2]? = some (.cells #[.int .i64 u.a, .int .i64 u.b, .int .i64 u.c, .int .i64 u.d] 23 (0, 0)) ∧ wx.heap[g_q]? = some (.cells #[.int .i64 a, .int .i64 b, .int .i64 c, .int .i64 d] 26 (0, 0)) ∧ wx.heap[g_both]? = some (.cells #[.int .i64 p1.a, .int .i64 p1.b, .int .i64 p1.c, .int .i64 p1.d] 26 (0, 0)) ∧ Hid (Below w.heap.size w wx))
    case first =>
      refine wp_region_held_drew (S := fun w' => w'.cell? ⟨g_both, 0, none⟩ = some (.int .i64 p1.a) ∧ w'.cell? ⟨g_both, 1, none⟩ = some (.int .i64 p1.b) ∧ w'.cell? ⟨g_both, 2, none⟩ = some (.int .i64 p1.c) ∧ w'.cell? ⟨g_both, 3, none⟩ = some (.int .i64 p1.d) ∧ w'.cell? ⟨w.heap.size + 2, 0, none⟩ = some (.int .i64 u.a) ∧ w'.cell? ⟨w.heap.size + 2, 1, none⟩ = some (.int .i64 u.b) ∧ w'.cell? ⟨w.heap.size + 2, 2, none⟩ = some (.int .i64 u.c) ∧ w'.cell? ⟨w.heap.size + 2, 3, none⟩ = some (.int .i64 u.d)) (by kernel_rfl) ⟨(q4c k_both).1.1, (q4c k_both).1.2.1, (q4c k_both).1.2.2.1, (q4c k_both).1.2.2.2, (q4c k_u).1.1, (q4c k_u).1.2.1, (q4c k_u).1.2.2.1, (q4c k_u).1.2.2.2⟩ ?_
      intro hHeld
      obtain ⟨X16, eX, bc⟩ : ∃ X, X = Y15.drew ∧ Below Y15.heap.size Y15 X := ⟨_, rfl, (Below.refl _ _).drew⟩
      rw [← eX] at hHeld ⊢
      replace k_r := bk bc k_r
      replace k_s := bk bc k_s
      replace k_u := bk bc k_u
      replace k_q := bk bc k_q
      replace k_both := bk bc k_both
      replace bw := bst bc bw
      clear eX bc
      refine takx (i := 0) (D := 43) (v := .agg #[.int .i64 p1.a, .int .i64 p1.b, .int .i64 p1.c, .int .i64 p1.d]) rfl rfl (by kernel_rfl) (by kernel_rfl) (by kernel_rfl) (fun _ _ _ h => h) (Or.inl ⟨by rfl, fun W hSw => by (try dsimp only at hSw); go_simp⟩) (by assumption) ?_
      (try simp only [List.setIfInBounds_toArray, List.set_cons_zero, List.set_cons_succ])
      refine takx (i := 1) (D := 44) (v := .agg #[.int .i64 u.a, .int .i64 u.b, .int .i64 u.c, .int .i64 u.d]) rfl rfl (by kernel_rfl) (by kernel_rfl) (by kernel_rfl) (fun _ _ _ h => h) (Or.inl ⟨by rfl, fun W hSw => by (try dsimp only at hSw); go_simp⟩) (by assumption) ?_
      (try simp only [List.setIfInBounds_toArray, List.set_cons_zero, List.set_cons_succ])
      refine wpAnyH_ready (rs := [2, 7]) (by kernel_rfl) (by simp) ?_
      refine (AllReadyH.cons rfl (fun K hK => ?_) (AllReadyH.cons rfl (fun K hK => ?_) AllReadyH.nil))
      · go_simp
        refine (toRect4 u.a u.b u.c u.d _).mono ?_
        rintro e X17 ⟨rfl, bc⟩
        refine hK.out _ _ ⟨ck bc hHeld.1, ck bc hHeld.2.1, ck bc hHeld.2.2.1, ck bc hHeld.2.2.2.1, ck bc hHeld.2.2.2.2.1, ck bc hHeld.2.2.2.2.2.1, ck bc hHeld.2.2.2.2.2.2.1, ck bc hHeld.2.2.2.2.2.2.2⟩ (fun hHeld => ?_)
        clear hK K
        (try simp only [List.setIfInBounds_toArray, List.set_cons_zero, List.set_cons_succ])
        replace k_r := bk bc k_r
        replace k_s := bk bc k_s
        replace k_u := bk bc k_u
        replace k_q := bk bc k_q
        replace k_both := bk bc k_both
        replace bw := bst bc bw
        clear bc
        refine wpAnyH_ready (rs := [3, 7]) (by kernel_rfl) (by simp) ?_
        refine (AllReadyH.cons rfl (fun K hK => ?_) (AllReadyH.cons rfl (fun K hK => ?_) AllReadyH.nil))
        · go_simp
          refine (common_some p1 u p2 HC2.out _).mono ?_
          rintro e X18 ⟨rfl, bc⟩
          refine hK.out _ _ ⟨ck bc hHeld.1, ck bc hHeld.2.1, ck bc hHeld.2.2.1, ck bc hHeld.2.2.2.1, ck bc hHeld.2.2.2.2.1, ck bc hHeld.2.2.2.2.2.1, ck bc hHeld.2.2.2.2.2.2.1, ck bc hHeld.2.2.2.2.2.2.2⟩ (fun hHeld => ?_)
          clear hK K
          (try simp only [List.setIfInBounds_toArray, List.set_cons_zero, List.set_cons_succ])
          replace k_r := bk bc k_r
          replace k_s := bk bc k_s
          replace k_u := bk bc k_u
          replace k_q := bk bc k_q
          replace k_both := bk bc k_both
          replace bw := bst bc bw
          clear bc
          refine takx (i := 4) (D := 42) (v := .tuple #[.agg #[.int .i64 p2.a, .int .i64 p2.b, .int .i64 p2.c, .int .i64 p2.d], .bool true]) rfl rfl (by kernel_rfl) (by kernel_rfl) (by kernel_rfl) (fun _ _ _ h => h) (Or.inl ⟨by rfl, fun W hSw => by (try dsimp only at hSw); go_simp⟩) (by assumption) ?_
          (try simp only [List.setIfInBounds_toArray, List.set_cons_zero, List.set_cons_succ])
          refine takx (i := 5) (D := 47) (v := .agg #[.int .i64 p2.a, .int .i64 p2.b, .int .i64 p2.c, .int .i64 p2.d]) rfl rfl (by kernel_rfl) (by kernel_rfl) (by kernel_rfl) (fun _ _ _ h => h) (Or.inl ⟨by rfl, fun W hSw => by (try dsimp only at hSw); go_simp⟩) (by assumption) ?_
          (try simp only [List.setIfInBounds_toArray, List.set_cons_zero, List.set_cons_succ])
          refine takx (i := 6) (D := 48) (v := .bool true) rfl rfl (by kernel_rfl) (by kernel_rfl) (by kernel_rfl) (fun _ _ _ h => h) (Or.inl ⟨by rfl, fun W hSw => by (try dsimp only at hSw); go_simp⟩) (by assumption) ?_
          (try simp only [List.setIfInBounds_toArray, List.set_cons_zero, List.set_cons_succ])
          refine wpAnyH_ready (rs := [7]) (by kernel_rfl) (by simp) ?_
          refine (AllReadyH.cons rfl (fun K hK => ?_) AllReadyH.nil)
          go_simp
          refine hK.out _ _ ⟨cka hHeld.1, cka hHeld.2.1, cka hHeld.2.2.1, cka hHeld.2.2.2.1, cka hHeld.2.2.2.2.1, cka hHeld.2.2.2.2.2.1, cka hHeld.2.2.2.2.2.2.1, cka hHeld.2.2.2.2.2.2.2⟩ (fun hHeld => ?_)
          clear hK K
          (try simp only [List.setIfInBounds_toArray, List.set_cons_zero, List.set_cons_succ])
          obtain ⟨X19, g19, eY, eg⟩ : ∃ Y g, Y = X18.alloc (.cells #[.int .i64 0, .int .i64 0, .int .i64 0, .int .i64 0] 26) ∧ g = X18.heap.size := ⟨_, _, rfl, rfl⟩
          rw [← eY, ← eg]
          rw [← eY] at hHeld
          have bc : Below X18.heap.size X18 X19 := by rw [eY]; exact (Below.refl _ _).alloc (Nat.le_refl _) _
          have k_n16 : X19.heap[g19]? = some (.cells #[.int .i64 0, .int .i64 0, .int .i64 0, .int .i64 0] 26 (0, 0)) := by rw [eY, eg]; exact heap_alloc_new X18 _
          have lo_n16 : w.heap.size ≤ g19 := by rw [eg]; exact bw.size
          have ne_r_n16 : ¬ w.heap.size = g19 := ne_new k_r eg
          have ne_s_n16 : ¬ w.heap.size + 1 = g19 := ne_new k_s eg
          have ne_u_n16 : ¬ w.heap.size + 2 = g19 := ne_new k_u eg
          have ne_q_n16 : ¬ g_q = g19 := ne_new k_q eg
          have ne_both_n16 : ¬ g_both = g19 := ne_new k_both eg
          replace k_r := bk bc k_r
          replace k_s := bk bc k_s
          replace k_u := bk bc k_u
          replace k_q := bk bc k_q
          replace k_both := bk bc k_both
          replace bw := bst bc bw
          clear bc eY eg
          refine wpAnyH_ready (rs := [8]) (by kernel_rfl) (by simp) ?_
          refine (AllReadyH.cons rfl (fun K hK => ?_) AllReadyH.nil)
          have qq := q4c k_n16
          go_simp
          clear qq
          refine hK.out _ _ ⟨(cks ne_both_n16 (cks ne_both_n16 (cks ne_both_n16 (cks ne_both_n16 hHeld.1)))), (cks ne_both_n16 (cks ne_both_n16 (cks ne_both_n16 (cks ne_both_n16 hHeld.2.1)))), (cks ne_both_n16 (cks ne_both_n16 (cks ne_both_n16 (cks ne_both_n16 hHeld.2.2.1)))), (cks ne_both_n16 (cks ne_both_n16 (cks ne_both_n16 (cks ne_both_n16 hHeld.2.2.2.1)))), (cks ne_u_n16 (cks ne_u_n16 (cks ne_u_n16 (cks ne_u_n16 hHeld.2.2.2.2.1)))), (cks ne_u_n16 (cks ne_u_n16 (cks ne_u_n16 (cks ne_u_n16 hHeld.2.2.2.2.2.1)))), (cks ne_u_n16 (cks ne_u_n16 (cks ne_u_n16 (cks ne_u_n16 hHeld.2.2.2.2.2.2.1)))), (cks ne_u_n16 (cks ne_u_n16 (cks ne_u_n16 (cks ne_u_n16 hHeld.2.2.2.2.2.2.2))))⟩ (fun hHeld => ?_)
          clear hK K
          (try simp only [List.setIfInBounds_toArray, List.set_cons_zero, List.set_cons_succ])
          obtain ⟨X20, eY⟩ : ∃ Y, Y = ((((X19.setCell ⟨g19, 0, none⟩ (.int .i64 p2.a)).setCell ⟨g19, 1, none⟩ (.int .i64 p2.b)).setCell ⟨g19, 2, none⟩ (.int .i64 p2.c)).setCell ⟨g19, 3, none⟩ (.int .i64 p2.d)) := ⟨_, rfl⟩
          rw [← eY] at hHeld ⊢
          replace k_r : X20.heap[w.heap.size]? = some (.cells #[.int .i64 a, .int .i64 b, .int .i64 c, .int .i64 d] 23 (0, 0)) := by rw [eY]; exact (bks ne_r_n16 (bks ne_r_n16 (bks ne_r_n16 (bks ne_r_n16 k_r))))
          replace k_s : X20.heap[w.heap.size + 1]? = some (.cells #[.int .i64 s.a, .int .i64 s.b, .int .i64 s.c, .int .i64 s.d] 23 (0, 0)) := by rw [eY]; exact (bks ne_s_n16 (bks ne_s_n16 (bks ne_s_n16 (bks ne_s_n16 k_s))))
          replace k_u : X20.heap[w.heap.size + 2]? = some (.cells #[.int .i64 u.a, .int .i64 u.b, .int .i64 u.c, .int .i64 u.d] 23 (0, 0)) := by rw [eY]; exact (bks ne_u_n16 (bks ne_u_n16 (bks ne_u_n16 (bks ne_u_n16 k_u))))
          replace k_q : X20.heap[g_q]? = some (.cells #[.int .i64 a, .int .i64 b, .int .i64 c, .int .i64 d] 26 (0, 0)) := by rw [eY]; exact (bks ne_q_n16 (bks ne_q_n16 (bks ne_q_n16 (bks ne_q_n16 k_q))))
          replace k_both : X20.heap[g_both]? = some (.cells #[.int .i64 p1.a, .int .i64 p1.b, .int .i64 p1.c, .int .i64 p1.d] 26 (0, 0)) := by rw [eY]; exact (bks ne_both_n16 (bks ne_both_n16 (bks ne_both_n16 (bks ne_both_n16 k_both))))
          replace bw : Below w.heap.size w X20 := by rw [eY]; exact (bss lo_n16 (bss lo_n16 (bss lo_n16 (bss lo_n16 bw))))
          replace k_n16 : X20.heap[g19]? = some (.cells #[.int .i64 p2.a, .int .i64 p2.b, .int .i64 p2.c, .int .i64 p2.d] 26 (0, 0)) := by rw [eY]; exact q4s k_n16
          clear eY
          refine takx (i := 9) (D := 17) (v := .bool true) rfl rfl (by kernel_rfl) (by kernel_rfl) (by kernel_rfl) (fun _ _ _ h => h) (Or.inl ⟨by rfl, fun W hSw => by (try dsimp only at hSw); go_simp⟩) (by assumption) ?_
          (try simp only [List.setIfInBounds_toArray, List.set_cons_zero, List.set_cons_succ])
          refine wpAnyH_done (by kernel_rfl) ?_ _
          go_wp2_with fail
          go_meet
          exact ⟨_, rfl, rfl, k_n16, k_r, k_s, k_u, k_q, k_both, bw⟩
        · go_simp
          refine hK.out _ _ ⟨cka hHeld.1, cka hHeld.2.1, cka hHeld.2.2.1, cka hHeld.2.2.2.1, cka hHeld.2.2.2.2.1, cka hHeld.2.2.2.2.2.1, cka hHeld.2.2.2.2.2.2.1, cka hHeld.2.2.2.2.2.2.2⟩ (fun hHeld => ?_)
          clear hK K
          (try simp only [List.setIfInBounds_toArray, List.set_cons_zero, List.set_cons_succ])
          obtain ⟨X21, g21, eY, eg⟩ : ∃ Y g, Y = X17.alloc (.cells #[.int .i64 0, .int .i64 0, .int .i64 0, .int .i64 0] 26) ∧ g = X17.heap.size := ⟨_, _, rfl, rfl⟩
          rw [← eY, ← eg]
          rw [← eY] at hHeld
          have bc : Below X17.heap.size X17 X21 := by rw [eY]; exact (Below.refl _ _).alloc (Nat.le_refl _) _
          have k_n16 : X21.heap[g21]? = some (.cells #[.int .i64 0, .int .i64 0, .int .i64 0, .int .i64 0] 26 (0, 0)) := by rw [eY, eg]; exact heap_alloc_new X17 _
          have lo_n16 : w.heap.size ≤ g21 := by rw [eg]; exact bw.size
          have ne_r_n16 : ¬ w.heap.size = g21 := ne_new k_r eg
          have ne_s_n16 : ¬ w.heap.size + 1 = g21 := ne_new k_s eg
          have ne_u_n16 : ¬ w.heap.size + 2 = g21 := ne_new k_u eg
          have ne_q_n16 : ¬ g_q = g21 := ne_new k_q eg
          have ne_both_n16 : ¬ g_both = g21 := ne_new k_both eg
          replace k_r := bk bc k_r
          replace k_s := bk bc k_s
          replace k_u := bk bc k_u
          replace k_q := bk bc k_q
          replace k_both := bk bc k_both
          replace bw := bst bc bw
          clear bc eY eg
          refine wpAnyH_ready (rs := [3]) (by kernel_rfl) (by simp) ?_
          refine (AllReadyH.cons rfl (fun K hK => ?_) AllReadyH.nil)
          go_simp
          refine (common_some p1 u p2 HC2.out _).mono ?_
          rintro e X22 ⟨rfl, bc⟩
          refine hK.out _ _ ⟨ck bc hHeld.1, ck bc hHeld.2.1, ck bc hHeld.2.2.1, ck bc hHeld.2.2.2.1, ck bc hHeld.2.2.2.2.1, ck bc hHeld.2.2.2.2.2.1, ck bc hHeld.2.2.2.2.2.2.1, ck bc hHeld.2.2.2.2.2.2.2⟩ (fun hHeld => ?_)
          clear hK K
          (try simp only [List.setIfInBounds_toArray, List.set_cons_zero, List.set_cons_succ])
          replace k_r := bk bc k_r
          replace k_s := bk bc k_s
          replace k_u := bk bc k_u
          replace k_q := bk bc k_q
          replace k_both := bk bc k_both
          replace k_n16 := bk bc k_n16
          replace bw := bst bc bw
          clear bc
          refine takx (i := 4) (D := 42) (v := .tuple #[.agg #[.int .i64 p2.a, .int .i64 p2.b, .int .i64 p2.c, .int .i64 p2.d], .bool true]) rfl rfl (by kernel_rfl) (by kernel_rfl) (by kernel_rfl) (fun _ _ _ h => h) (Or.inl ⟨by rfl, fun W hSw => by (try dsimp only at hSw); go_simp⟩) (by assumption) ?_
          (try simp only [List.setIfInBounds_toArray, List.set_cons_zero, List.set_cons_succ])
          refine takx (i := 5) (D := 47) (v := .agg #[.int .i64 p2.a, .int .i64 p2.b, .int .i64 p2.c, .int .i64 p2.d]) rfl rfl (by kernel_rfl) (by kernel_rfl) (by kernel_rfl) (fun _ _ _ h => h) (Or.inl ⟨by rfl, fun W hSw => by (try dsimp only at hSw); go_simp⟩) (by assumption) ?_
          (try simp only [List.setIfInBounds_toArray, List.set_cons_zero, List.set_cons_succ])
          refine takx (i := 6) (D := 48) (v := .bool true) rfl rfl (by kernel_rfl) (by kernel_rfl) (by kernel_rfl) (fun _ _ _ h => h) (Or.inl ⟨by rfl, fun W hSw => by (try dsimp only at hSw); go_simp⟩) (by assumption) ?_
          (try simp only [List.setIfInBounds_toArray, List.set_cons_zero, List.set_cons_succ])
          refine wpAnyH_ready (rs := [8]) (by kernel_rfl) (by simp) ?_
          refine (AllReadyH.cons rfl (fun K hK => ?_) AllReadyH.nil)
          have qq := q4c k_n16
          go_simp
          clear qq
          refine hK.out _ _ ⟨(cks ne_both_n16 (cks ne_both_n16 (cks ne_both_n16 (cks ne_both_n16 hHeld.1)))), (cks ne_both_n16 (cks ne_both_n16 (cks ne_both_n16 (cks ne_both_n16 hHeld.2.1)))), (cks ne_both_n16 (cks ne_both_n16 (cks ne_both_n16 (cks ne_both_n16 hHeld.2.2.1)))), (cks ne_both_n16 (cks ne_both_n16 (cks ne_both_n16 (cks ne_both_n16 hHeld.2.2.2.1)))), (cks ne_u_n16 (cks ne_u_n16 (cks ne_u_n16 (cks ne_u_n16 hHeld.2.2.2.2.1)))), (cks ne_u_n16 (cks ne_u_n16 (cks ne_u_n16 (cks ne_u_n16 hHeld.2.2.2.2.2.1)))), (cks ne_u_n16 (cks ne_u_n16 (cks ne_u_n16 (cks ne_u_n16 hHeld.2.2.2.2.2.2.1)))), (cks ne_u_n16 (cks ne_u_n16 (cks ne_u_n16 (cks ne_u_n16 hHeld.2.2.2.2.2.2.2))))⟩ (fun hHeld => ?_)
          clear hK K
          (try simp only [List.setIfInBounds_toArray, List.set_cons_zero, List.set_cons_succ])
          obtain ⟨X23, eY⟩ : ∃ Y, Y = ((((X22.setCell ⟨g21, 0, none⟩ (.int .i64 p2.a)).setCell ⟨g21, 1, none⟩ (.int .i64 p2.b)).setCell ⟨g21, 2, none⟩ (.int .i64 p2.c)).setCell ⟨g21, 3, none⟩ (.int .i64 p2.d)) := ⟨_, rfl⟩
          rw [← eY] at hHeld ⊢
          replace k_r : X23.heap[w.heap.size]? = some (.cells #[.int .i64 a, .int .i64 b, .int .i64 c, .int .i64 d] 23 (0, 0)) := by rw [eY]; exact (bks ne_r_n16 (bks ne_r_n16 (bks ne_r_n16 (bks ne_r_n16 k_r))))
          replace k_s : X23.heap[w.heap.size + 1]? = some (.cells #[.int .i64 s.a, .int .i64 s.b, .int .i64 s.c, .int .i64 s.d] 23 (0, 0)) := by rw [eY]; exact (bks ne_s_n16 (bks ne_s_n16 (bks ne_s_n16 (bks ne_s_n16 k_s))))
          replace k_u : X23.heap[w.heap.size + 2]? = some (.cells #[.int .i64 u.a, .int .i64 u.b, .int .i64 u.c, .int .i64 u.d] 23 (0, 0)) := by rw [eY]; exact (bks ne_u_n16 (bks ne_u_n16 (bks ne_u_n16 (bks ne_u_n16 k_u))))
          replace k_q : X23.heap[g_q]? = some (.cells #[.int .i64 a, .int .i64 b, .int .i64 c, .int .i64 d] 26 (0, 0)) := by rw [eY]; exact (bks ne_q_n16 (bks ne_q_n16 (bks ne_q_n16 (bks ne_q_n16 k_q))))
          replace k_both : X23.heap[g_both]? = some (.cells #[.int .i64 p1.a, .int .i64 p1.b, .int .i64 p1.c, .int .i64 p1.d] 26 (0, 0)) := by rw [eY]; exact (bks ne_both_n16 (bks ne_both_n16 (bks ne_both_n16 (bks ne_both_n16 k_both))))
          replace bw : Below w.heap.size w X23 := by rw [eY]; exact (bss lo_n16 (bss lo_n16 (bss lo_n16 (bss lo_n16 bw))))
          replace k_n16 : X23.heap[g21]? = some (.cells #[.int .i64 p2.a, .int .i64 p2.b, .int .i64 p2.c, .int .i64 p2.d] 26 (0, 0)) := by rw [eY]; exact q4s k_n16
          clear eY
          refine takx (i := 9) (D := 17) (v := .bool true) rfl rfl (by kernel_rfl) (by kernel_rfl) (by kernel_rfl) (fun _ _ _ h => h) (Or.inl ⟨by rfl, fun W hSw => by (try dsimp only at hSw); go_simp⟩) (by assumption) ?_
          (try simp only [List.setIfInBounds_toArray, List.set_cons_zero, List.set_cons_succ])
          refine wpAnyH_done (by kernel_rfl) ?_ _
          go_wp2_with fail
          go_meet
          exact ⟨_, rfl, rfl, k_n16, k_r, k_s, k_u, k_q, k_both, bw⟩
      · go_simp
        refine hK.out _ _ ⟨cka hHeld.1, cka hHeld.2.1, cka hHeld.2.2.1, cka hHeld.2.2.2.1, cka hHeld.2.2.2.2.1, cka hHeld.2.2.2.2.2.1, cka hHeld.2.2.2.2.2.2.1, cka hHeld.2.2.2.2.2.2.2⟩ (fun hHeld => ?_)
        clear hK K
        (try simp only [List.setIfInBounds_toArray, List.set_cons_zero, List.set_cons_succ])
        obtain ⟨X24, g24, eY, eg⟩ : ∃ Y g, Y = X16.alloc (.cells #[.int .i64 0, .int .i64 0, .int .i64 0, .int .i64 0] 26) ∧ g = X16.heap.size := ⟨_, _, rfl, rfl⟩
        rw [← eY, ← eg]
        rw [← eY] at hHeld
        have bc : Below X16.heap.size X16 X24 := by rw [eY]; exact (Below.refl _ _).alloc (Nat.le_refl _) _
        have k_n16 : X24.heap[g24]? = some (.cells #[.int .i64 0, .int .i64 0, .int .i64 0, .int .i64 0] 26 (0, 0)) := by rw [eY, eg]; exact heap_alloc_new X16 _
        have lo_n16 : w.heap.size ≤ g24 := by rw [eg]; exact bw.size
        have ne_r_n16 : ¬ w.heap.size = g24 := ne_new k_r eg
        have ne_s_n16 : ¬ w.heap.size + 1 = g24 := ne_new k_s eg
        have ne_u_n16 : ¬ w.heap.size + 2 = g24 := ne_new k_u eg
        have ne_q_n16 : ¬ g_q = g24 := ne_new k_q eg
        have ne_both_n16 : ¬ g_both = g24 := ne_new k_both eg
        replace k_r := bk bc k_r
        replace k_s := bk bc k_s
        replace k_u := bk bc k_u
        replace k_q := bk bc k_q
        replace k_both := bk bc k_both
        replace bw := bst bc bw
        clear bc eY eg
        refine wpAnyH_ready (rs := [2]) (by kernel_rfl) (by simp) ?_
        refine (AllReadyH.cons rfl (fun K hK => ?_) AllReadyH.nil)
        go_simp
        refine (toRect4 u.a u.b u.c u.d _).mono ?_
        rintro e X25 ⟨rfl, bc⟩
        refine hK.out _ _ ⟨ck bc hHeld.1, ck bc hHeld.2.1, ck bc hHeld.2.2.1, ck bc hHeld.2.2.2.1, ck bc hHeld.2.2.2.2.1, ck bc hHeld.2.2.2.2.2.1, ck bc hHeld.2.2.2.2.2.2.1, ck bc hHeld.2.2.2.2.2.2.2⟩ (fun hHeld => ?_)
        clear hK K
        (try simp only [List.setIfInBounds_toArray, List.set_cons_zero, List.set_cons_succ])
        replace k_r := bk bc k_r
        replace k_s := bk bc k_s
        replace k_u := bk bc k_u
        replace k_q := bk bc k_q
        replace k_both := bk bc k_both
        replace k_n16 := bk bc k_n16
        replace bw := bst bc bw
        clear bc
        refine wpAnyH_ready (rs := [3]) (by kernel_rfl) (by simp) ?_
        refine (AllReadyH.cons rfl (fun K hK => ?_) AllReadyH.nil)
        go_simp
        refine (common_some p1 u p2 HC2.out _).mono ?_
        rintro e X26 ⟨rfl, bc⟩
        refine hK.out _ _ ⟨ck bc hHeld.1, ck bc hHeld.2.1, ck bc hHeld.2.2.1, ck bc hHeld.2.2.2.1, ck bc hHeld.2.2.2.2.1, ck bc hHeld.2.2.2.2.2.1, ck bc hHeld.2.2.2.2.2.2.1, ck bc hHeld.2.2.2.2.2.2.2⟩ (fun hHeld => ?_)
        clear hK K
        (try simp only [List.setIfInBounds_toArray, List.set_cons_zero, List.set_cons_succ])
        replace k_r := bk bc k_r
        replace k_s := bk bc k_s
        replace k_u := bk bc k_u
        replace k_q := bk bc k_q
        replace k_both := bk bc k_both
        replace k_n16 := bk bc k_n16
        replace bw := bst bc bw
        clear bc
        refine takx (i := 4) (D := 42) (v := .tuple #[.agg #[.int .i64 p2.a, .int .i64 p2.b, .int .i64 p2.c, .int .i64 p2.d], .bool true]) rfl rfl (by kernel_rfl) (by kernel_rfl) (by kernel_rfl) (fun _ _ _ h => h) (Or.inl ⟨by rfl, fun W hSw => by (try dsimp only at hSw); go_simp⟩) (by assumption) ?_
        (try simp only [List.setIfInBounds_toArray, List.set_cons_zero, List.set_cons_succ])
        refine takx (i := 5) (D := 47) (v := .agg #[.int .i64 p2.a, .int .i64 p2.b, .int .i64 p2.c, .int .i64 p2.d]) rfl rfl (by kernel_rfl) (by kernel_rfl) (by kernel_rfl) (fun _ _ _ h => h) (Or.inl ⟨by rfl, fun W hSw => by (try dsimp only at hSw); go_simp⟩) (by assumption) ?_
        (try simp only [List.setIfInBounds_toArray, List.set_cons_zero, List.set_cons_succ])
        refine takx (i := 6) (D := 48) (v := .bool true) rfl rfl (by kernel_rfl) (by kernel_rfl) (by kernel_rfl) (fun _ _ _ h => h) (Or.inl ⟨by rfl, fun W hSw => by (try dsimp only at hSw); go_simp⟩) (by assumption) ?_
        (try simp only [List.setIfInBounds_toArray, List.set_cons_zero, List.set_cons_succ])
        refine wpAnyH_ready (rs := [8]) (by kernel_rfl) (by simp) ?_
        refine (AllReadyH.cons rfl (fun K hK => ?_) AllReadyH.nil)
        have qq := q4c k_n16
        go_simp
        clear qq
        refine hK.out _ _ ⟨(cks ne_both_n16 (cks ne_both_n16 (cks ne_both_n16 (cks ne_both_n16 hHeld.1)))), (cks ne_both_n16 (cks ne_both_n16 (cks ne_both_n16 (cks ne_both_n16 hHeld.2.1)))), (cks ne_both_n16 (cks ne_both_n16 (cks ne_both_n16 (cks ne_both_n16 hHeld.2.2.1)))), (cks ne_both_n16 (cks ne_both_n16 (cks ne_both_n16 (cks ne_both_n16 hHeld.2.2.2.1)))), (cks ne_u_n16 (cks ne_u_n16 (cks ne_u_n16 (cks ne_u_n16 hHeld.2.2.2.2.1)))), (cks ne_u_n16 (cks ne_u_n16 (cks ne_u_n16 (cks ne_u_n16 hHeld.2.2.2.2.2.1)))), (cks ne_u_n16 (cks ne_u_n16 (cks ne_u_n16 (cks ne_u_n16 hHeld.2.2.2.2.2.2.1)))), (cks ne_u_n16 (cks ne_u_n16 (cks ne_u_n16 (cks ne_u_n16 hHeld.2.2.2.2.2.2.2))))⟩ (fun hHeld => ?_)
        clear hK K
        (try simp only [List.setIfInBounds_toArray, List.set_cons_zero, List.set_cons_succ])
        obtain ⟨X27, eY⟩ : ∃ Y, Y = ((((X26.setCell ⟨g24, 0, none⟩ (.int .i64 p2.a)).setCell ⟨g24, 1, none⟩ (.int .i64 p2.b)).setCell ⟨g24, 2, none⟩ (.int .i64 p2.c)).setCell ⟨g24, 3, none⟩ (.int .i64 p2.d)) := ⟨_, rfl⟩
        rw [← eY] at hHeld ⊢
        replace k_r : X27.heap[w.heap.size]? = some (.cells #[.int .i64 a, .int .i64 b, .int .i64 c, .int .i64 d] 23 (0, 0)) := by rw [eY]; exact (bks ne_r_n16 (bks ne_r_n16 (bks ne_r_n16 (bks ne_r_n16 k_r))))
        replace k_s : X27.heap[w.heap.size + 1]? = some (.cells #[.int .i64 s.a, .int .i64 s.b, .int .i64 s.c, .int .i64 s.d] 23 (0, 0)) := by rw [eY]; exact (bks ne_s_n16 (bks ne_s_n16 (bks ne_s_n16 (bks ne_s_n16 k_s))))
        replace k_u : X27.heap[w.heap.size + 2]? = some (.cells #[.int .i64 u.a, .int .i64 u.b, .int .i64 u.c, .int .i64 u.d] 23 (0, 0)) := by rw [eY]; exact (bks ne_u_n16 (bks ne_u_n16 (bks ne_u_n16 (bks ne_u_n16 k_u))))
        replace k_q : X27.heap[g_q]? = some (.cells #[.int .i64 a, .int .i64 b, .int .i64 c, .int .i64 d] 26 (0, 0)) := by rw [eY]; exact (bks ne_q_n16 (bks ne_q_n16 (bks ne_q_n16 (bks ne_q_n16 k_q))))
        replace k_both : X27.heap[g_both]? = some (.cells #[.int .i64 p1.a, .int .i64 p1.b, .int .i64 p1.c, .int .i64 p1.d] 26 (0, 0)) := by rw [eY]; exact (bks ne_both_n16 (bks ne_both_n16 (bks ne_both_n16 (bks ne_both_n16 k_both))))
        replace bw : Below w.heap.size w X27 := by rw [eY]; exact (bss lo_n16 (bss lo_n16 (bss lo_n16 (bss lo_n16 bw))))
        replace k_n16 : X27.heap[g24]? = some (.cells #[.int .i64 p2.a, .int .i64 p2.b, .int .i64 p2.c, .int .i64 p2.d] 26 (0, 0)) := by rw [eY]; exact q4s k_n16
        clear eY
        refine takx (i := 9) (D := 17) (v := .bool true) rfl rfl (by kernel_rfl) (by kernel_rfl) (by kernel_rfl) (fun _ _ _ h => h) (Or.inl ⟨by rfl, fun W hSw => by (try dsimp only at hSw); go_simp⟩) (by assumption) ?_
        (try simp only [List.setIfInBounds_toArray, List.set_cons_zero, List.set_cons_succ])
        refine wpAnyH_done (by kernel_rfl) ?_ _
        go_wp2_with fail
        go_meet
        exact ⟨_, rfl, rfl, k_n16, k_r, k_s, k_u, k_q, k_both, bw⟩
    case rest =>
      clear k_r k_s k_u k_q k_both bw
      obtain ⟨g_all, rfl, rfl, k_all, k_r, k_s, k_u, k_q, k_both, BW⟩ := hcut
      have bw := BW.out
      clear BW
      have q_r := q4c k_r
      have q_s := q4c k_s
      have q_u := q4c k_u
      have q_q := q4c k_q
      have q_both := q4c k_both
      have q_all := q4c k_all
      go_wp2_with fail
      refine (has_no p2.a p2.b p2.c p2.d x y HI.out _).mono ?_
      rintro e Y29 ⟨rfl, bc⟩
      clear q_r q_s q_u q_q q_both q_all
      replace k_r := bk bc k_r
      replace k_s := bk bc k_s
      replace k_u := bk bc k_u
      replace k_q := bk bc k_q
      replace k_both := bk bc k_both
      replace k_all := bk bc k_all
      replace bw := bst bc bw
      clear bc
      go_wp2
      go_ret
      exact ⟨rfl, bw⟩

end Go.Proofs.Ytpijljokcoocpaa

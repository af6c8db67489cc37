/-
  The walk of the law FnPaletteFirst. No condition.
-/
import Derived.Test.YtbhccckfooobcaaP9
namespace Go.Proofs.Ytbhccckfooobcaa
open Go.ChangeShapes Go.WideShapes Go.ChangeAt Go.RowKit
set_option linter.unusedVariables false
set_option linter.unusedSimpArgs false

set_option maxRecDepth 100000 in
set_option maxHeartbeats 8000000 in
theorem fnPaletteFirst_walk (w : World) (A : Option Addr) (n cp : Nat) (qs : List Q4) (hr : RdQuads w w.heap.size A n qs) (q : Q4) (hq : q.ok) :
    Calls Try.prog 7 #[.slice A n cp, q.val] w fun e w' => e = .returned (.bool true) ∧ Below w.heap.size w w' := by
  show Calls Try.prog 7 #[.slice A n cp, .agg #[.int .i64 q.a, .int .i64 q.b, .int .i64 q.c, .int .i64 q.d]] w _
  have HR := Lib.hid hr
  have HQ := Lib.hid hq
  have hn : n * 32 ≤ 140737488355328 := hr.2.1
  have hqd : I64 q.d := hq.2.2.2
  clear hr hq
  have hcs := fun a b c d W => col_same a b c d W
  by_cases hO : Opq qs
  case neg =>
    have HO := Lib.hid hO
    clear hO
    go_enter Try.func7, Try.ntmps7
    have b0 : Below w.heap.size w (w.alloc (.cells #[.int .i64 q.a, .int .i64 q.b, .int .i64 q.c, .int .i64 q.d] 23)) := bsa (Below.refl _ _)
    go_wp2_with fail
    refine (opq_no n cp A qs _ ((HR.out.below b0).more b0.size) HO.out).mono ?_
    rintro e w1 ⟨rfl, bc⟩
    have bw := bs bc b0
    have k_c := bk bc (heap_alloc_new w _)
    clear bc b0
    go_wp2
    go_ret
    exact ⟨rfl, bw⟩
  have HO := Lib.hid hO
  clear hO
  by_cases h255 : q.d % 256 = 255
  case neg =>
    have h5 : (q.d % 256 != 255) = true := by simp [h255]
    clear h255
    go_enter Try.func7, Try.ntmps7
    have b0 : Below w.heap.size w (w.alloc (.cells #[.int .i64 q.a, .int .i64 q.b, .int .i64 q.c, .int .i64 q.d] 23)) := bsa (Below.refl _ _)
    go_wp2_with fail
    refine (opq_yes n cp A qs _ ((HR.out.below b0).more b0.size) HO.out).mono ?_
    rintro e w1 ⟨rfl, bc⟩
    have bw := bs bc b0
    have k_c := bk bc (heap_alloc_new w _)
    clear bc b0
    obtain ⟨⟨_, _, _, qd⟩, _⟩ := q4c k_c
    go_wp2_with fail
    refine (low_any q.d hqd _).mono ?_
    rintro e _ ⟨rfl, rfl⟩
    clear qd
    go_wp2
    go_ret
    exact ⟨rfl, bw⟩
  have h5 : (q.d % 256 != 255) = false := by simp [h255]
  have H5 := Lib.hid h255
  clear h255
  go_enter Try.func7, Try.ntmps7
  have b0 : Below w.heap.size w (w.alloc (.cells #[.int .i64 q.a, .int .i64 q.b, .int .i64 q.c, .int .i64 q.d] 23)) := bsa (Below.refl _ _)
  go_wp2_with fail
  refine (opq_yes n cp A qs _ ((HR.out.below b0).more b0.size) HO.out).mono ?_
  rintro e w1 ⟨rfl, bc⟩
  have bw := bs bc b0
  have k_c := bk bc (heap_alloc_new w _)
  clear bc b0
  obtain ⟨⟨_, _, _, qd⟩, _⟩ := q4c k_c
  go_wp2_with fail
  refine (low_any q.d hqd _).mono ?_
  rintro e _ ⟨rfl, rfl⟩
  clear qd
  go_upto_region 3 with fail
  refine wp_region_held_drew (S := fun w' => w'.cell? ⟨w.heap.size, 0, none⟩ = some (.int .i64 q.a) ∧ w'.cell? ⟨w.heap.size, 1, none⟩ = some (.int .i64 q.b) ∧ w'.cell? ⟨w.heap.size, 2, none⟩ = some (.int .i64 q.c) ∧ w'.cell? ⟨w.heap.size, 3, none⟩ = some (.int .i64 q.d)) (by kernel_rfl) ⟨(q4c k_c).1.1, (q4c k_c).1.2.1, (q4c k_c).1.2.2.1, (q4c k_c).1.2.2.2⟩ ?_
  intro hHeld
  obtain ⟨X0, eX, bc⟩ : ∃ X, X = w1.drew ∧ Below w1.heap.size w1 X := ⟨_, rfl, (Below.refl _ _).drew⟩
  rw [← eX] at hHeld ⊢
  replace k_c := bk bc k_c
  replace bw := bs bc bw
  (try replace r1 := (r1.below bc).more bc.size)
  clear eX bc
  refine takx (i := 0) (D := 19) (v := .slice A n cp) rfl rfl (by kernel_rfl) (by kernel_rfl) (by kernel_rfl) (fun _ _ _ h => h) (Or.inl ⟨by rfl, fun W hSw => by (try dsimp only at hSw); go_simp⟩) (by assumption) ?_
  (try simp only [List.setIfInBounds_toArray, List.set_cons_zero, List.set_cons_succ])
  refine takx (i := 2) (D := 21) (v := .agg #[.int .i64 q.a, .int .i64 q.b, .int .i64 q.c, .int .i64 q.d]) rfl rfl (by kernel_rfl) (by kernel_rfl) (by kernel_rfl) (fun _ _ _ h => h) (Or.inl ⟨by rfl, fun W hSw => by (try dsimp only at hSw); go_simp⟩) (by assumption) ?_
  (try simp only [List.setIfInBounds_toArray, List.set_cons_zero, List.set_cons_succ])
  refine wpAnyH_ready (rs := [1]) (by kernel_rfl) (by simp) ?_
  refine (AllReadyH.cons rfl (fun K hK => ?_) AllReadyH.nil)
  go_simp
  refine (toColors_any n cp A qs _ ((HR.out.below bw).more bw.size)).mono ?_
  rintro e X1 ⟨A1, cp1, rfl, r1, lo1, bc⟩
  refine hK.out _ _ ⟨ck bc hHeld.1, ck bc hHeld.2.1, ck bc hHeld.2.2.1, ck bc hHeld.2.2.2⟩ (fun hHeld => ?_)
  clear hK K
  (try simp only [List.setIfInBounds_toArray, List.set_cons_zero, List.set_cons_succ])
  replace k_c := bk bc k_c
  replace bw := bs bc bw
  (try replace r1 := (r1.below bc).more bc.size)
  clear bc
  refine wpAnyH_ready (rs := [3]) (by kernel_rfl) (by simp) ?_
  refine (AllReadyH.cons rfl (fun K hK => ?_) AllReadyH.nil)
  go_simp
  refine (toColor4 q.a q.b q.c q.d _).mono ?_
  rintro e X2 ⟨rfl, bc⟩
  refine hK.out _ _ ⟨ck bc hHeld.1, ck bc hHeld.2.1, ck bc hHeld.2.2.1, ck bc hHeld.2.2.2⟩ (fun hHeld => ?_)
  clear hK K
  (try simp only [List.setIfInBounds_toArray, List.set_cons_zero, List.set_cons_succ])
  replace k_c := bk bc k_c
  replace bw := bs bc bw
  (try replace r1 := (r1.below bc).more bc.size)
  clear bc
  refine wpAnyH_ready (rs := [4]) (by kernel_rfl) (by simp) ?_
  refine (AllReadyH.cons rfl (fun K hK => ?_) AllReadyH.nil)
  go_simp
  refine (palIndex4 n cp1 A1 qs (q.a) (q.b) (q.c) (q.d) _ r1).mono ?_
  rintro e X3 ⟨i, rfl, hf0, bc⟩
  refine hK.out _ _ ⟨ck bc hHeld.1, ck bc hHeld.2.1, ck bc hHeld.2.2.1, ck bc hHeld.2.2.2⟩ (fun hHeld => ?_)
  clear hK K
  (try simp only [List.setIfInBounds_toArray, List.set_cons_zero, List.set_cons_succ])
  replace k_c := bk bc k_c
  replace bw := bs bc bw
  (try replace r1 := (r1.below bc).more bc.size)
  have Fi := Lib.hid hf0
  clear hf0
  clear bc
  refine takx (i := 5) (D := 5) (v := .int .i64 i) rfl rfl (by kernel_rfl) (by kernel_rfl) (by kernel_rfl) (fun _ _ _ h => h) (Or.inl ⟨by rfl, fun W hSw => by (try dsimp only at hSw); go_simp⟩) (by assumption) ?_
  (try simp only [List.setIfInBounds_toArray, List.set_cons_zero, List.set_cons_succ])
  refine wpAnyH_done (by kernel_rfl) ?_ _
  have Ni := Lib.hid (near_of_first H5.out HO.out Fi.out)
  clear hHeld
  clear r1
  obtain ⟨W, eW⟩ : ∃ W, W = X3 := ⟨_, rfl⟩
  rw [← eW] at bw k_c ⊢
  clear eW
  by_cases h0 : 0 < n
  case neg =>
    replace h0 := Lib.hid (show n = 0 by omega)
    go_upto_region 4 with fail
    go_cut [6, 7] (fun sx so wx => ∃ (g : Nat), sx = .pointer (some ⟨g, 0, none⟩) ∧ so = .bool false ∧ wx.heap[g]? = some (.cells #[.int .i64 0, .int .i64 0, .int .i64 0, .int .i64 0] 25 (0, 0)) ∧ wx.heap[w.heap.size]? = some (.cells #[.int .i64 q.a, .int .i64 q.b, .int .i64 q.c, .int .i64 q.d] 23 (0, 0)) ∧ Hid (Below w.heap.size w wx))
    case first =>
      refine wp_region_held_drew (S := fun w' => w'.cell? ⟨w.heap.size, 0, none⟩ = some (.int .i64 q.a) ∧ w'.cell? ⟨w.heap.size, 1, none⟩ = some (.int .i64 q.b) ∧ w'.cell? ⟨w.heap.size, 2, none⟩ = some (.int .i64 q.c) ∧ w'.cell? ⟨w.heap.size, 3, none⟩ = some (.int .i64 q.d)) (by kernel_rfl) ⟨(q4c k_c).1.1, (q4c k_c).1.2.1, (q4c k_c).1.2.2.1, (q4c k_c).1.2.2.2⟩ ?_
      intro hHeld
      obtain ⟨X0, eX, bc⟩ : ∃ X, X = W.drew ∧ Below W.heap.size W X := ⟨_, rfl, (Below.refl _ _).drew⟩
      rw [← eX] at hHeld ⊢
      replace k_c := bk bc k_c
      replace bw := bs bc bw
      (try replace r1 := (r1.below bc).more bc.size)
      clear eX bc
      refine takx (i := 0) (D := 25) (v := .slice A n cp) rfl rfl (by kernel_rfl) (by kernel_rfl) (by kernel_rfl) (fun _ _ _ h => h) (Or.inl ⟨by rfl, fun W hSw => by (try dsimp only at hSw); go_simp⟩) (by assumption) ?_
      (try simp only [List.setIfInBounds_toArray, List.set_cons_zero, List.set_cons_succ])
      refine takx (i := 2) (D := 27) (v := .agg #[.int .i64 q.a, .int .i64 q.b, .int .i64 q.c, .int .i64 q.d]) rfl rfl (by kernel_rfl) (by kernel_rfl) (by kernel_rfl) (fun _ _ _ h => h) (Or.inl ⟨by rfl, fun W hSw => by (try dsimp only at hSw); go_simp⟩) (by assumption) ?_
      (try simp only [List.setIfInBounds_toArray, List.set_cons_zero, List.set_cons_succ])
      refine wpAnyH_ready (rs := [1, 8]) (by kernel_rfl) (by simp) ?_
      refine (AllReadyH.cons rfl (fun K hK => ?_) (AllReadyH.cons rfl (fun K hK => ?_) AllReadyH.nil))
      · go_simp
        refine (toColors_any n cp A qs _ ((HR.out.below bw).more bw.size)).mono ?_
        rintro e X1 ⟨A1, cp1, rfl, r1, lo1, bc⟩
        refine hK.out _ _ ⟨ck bc hHeld.1, ck bc hHeld.2.1, ck bc hHeld.2.2.1, ck bc hHeld.2.2.2⟩ (fun hHeld => ?_)
        clear hK K
        (try simp only [List.setIfInBounds_toArray, List.set_cons_zero, List.set_cons_succ])
        replace k_c := bk bc k_c
        replace bw := bs bc bw
        (try replace r1 := (r1.below bc).more bc.size)
        clear bc
        refine wpAnyH_ready (rs := [3, 8]) (by kernel_rfl) (by simp) ?_
        refine (AllReadyH.cons rfl (fun K hK => ?_) (AllReadyH.cons rfl (fun K hK => ?_) AllReadyH.nil))
        · go_simp
          refine (toColor4 q.a q.b q.c q.d _).mono ?_
          rintro e X2 ⟨rfl, bc⟩
          refine hK.out _ _ ⟨ck bc hHeld.1, ck bc hHeld.2.1, ck bc hHeld.2.2.1, ck bc hHeld.2.2.2⟩ (fun hHeld => ?_)
          clear hK K
          (try simp only [List.setIfInBounds_toArray, List.set_cons_zero, List.set_cons_succ])
          replace k_c := bk bc k_c
          replace bw := bs bc bw
          (try replace r1 := (r1.below bc).more bc.size)
          clear bc
          refine wpAnyH_ready (rs := [4, 8]) (by kernel_rfl) (by simp) ?_
          refine (AllReadyH.cons rfl (fun K hK => ?_) (AllReadyH.cons rfl (fun K hK => ?_) AllReadyH.nil))
          · go_simp
            refine (palConv0 n cp1 A1 qs (q.a) (q.b) (q.c) (q.d) _ r1 h0).mono ?_
            rintro e X3 ⟨rfl, bc⟩
            refine hK.out _ _ ⟨ck bc hHeld.1, ck bc hHeld.2.1, ck bc hHeld.2.2.1, ck bc hHeld.2.2.2⟩ (fun hHeld => ?_)
            clear hK K
            (try simp only [List.setIfInBounds_toArray, List.set_cons_zero, List.set_cons_succ])
            replace k_c := bk bc k_c
            replace bw := bs bc bw
            (try replace r1 := (r1.below bc).more bc.size)
            clear bc
            refine takx (i := 5) (D := 24) (v := .tuple #[.agg #[.int .i64 0, .int .i64 0, .int .i64 0, .int .i64 0], .bool false]) rfl rfl (by kernel_rfl) (by kernel_rfl) (by kernel_rfl) (fun _ _ _ h => h) (Or.inl ⟨by rfl, fun W hSw => by (try dsimp only at hSw); go_simp⟩) (by assumption) ?_
            (try simp only [List.setIfInBounds_toArray, List.set_cons_zero, List.set_cons_succ])
            refine takx (i := 6) (D := 30) (v := .agg #[.int .i64 0, .int .i64 0, .int .i64 0, .int .i64 0]) rfl rfl (by kernel_rfl) (by kernel_rfl) (by kernel_rfl) (fun _ _ _ h => h) (Or.inl ⟨by rfl, fun W hSw => by (try dsimp only at hSw); go_simp⟩) (by assumption) ?_
            (try simp only [List.setIfInBounds_toArray, List.set_cons_zero, List.set_cons_succ])
            refine takx (i := 7) (D := 31) (v := .bool false) rfl rfl (by kernel_rfl) (by kernel_rfl) (by kernel_rfl) (fun _ _ _ h => h) (Or.inl ⟨by rfl, fun W hSw => by (try dsimp only at hSw); go_simp⟩) (by assumption) ?_
            (try simp only [List.setIfInBounds_toArray, List.set_cons_zero, List.set_cons_succ])
            refine wpAnyH_ready (rs := [8]) (by kernel_rfl) (by simp) ?_
            refine (AllReadyH.cons rfl (fun K hK => ?_) AllReadyH.nil)
            go_simp
            refine hK.out _ _ ⟨cka hHeld.1, cka hHeld.2.1, cka hHeld.2.2.1, cka hHeld.2.2.2⟩ (fun hHeld => ?_)
            clear hK K
            (try simp only [List.setIfInBounds_toArray, List.set_cons_zero, List.set_cons_succ])
            obtain ⟨X4, g4, eY, eg⟩ : ∃ Y g, Y = X3.alloc (.cells #[.int .i64 0, .int .i64 0, .int .i64 0, .int .i64 0] 25) ∧ g = X3.heap.size := ⟨_, _, rfl, rfl⟩
            rw [← eY, ← eg]
            rw [← eY] at hHeld
            have bc : Below X3.heap.size X3 X4 := by rw [eY]; exact (Below.refl _ _).alloc (Nat.le_refl _) _
            have k_n6 : X4.heap[g4]? = some (.cells #[.int .i64 0, .int .i64 0, .int .i64 0, .int .i64 0] 25 (0, 0)) := by rw [eY, eg]; exact heap_alloc_new X3 _
            have lo_n6 : w.heap.size ≤ g4 := by rw [eg]; exact bw.size
            have ne_c_n6 : ¬ w.heap.size = g4 := ne_new k_c eg
            replace k_c := bk bc k_c
            replace bw := bs bc bw
            (try replace r1 := (r1.below bc).more bc.size)
            clear bc eY eg
            refine wpAnyH_ready (rs := [9]) (by kernel_rfl) (by simp) ?_
            refine (AllReadyH.cons rfl (fun K hK => ?_) AllReadyH.nil)
            have qq := q4c k_n6
            go_simp
            clear qq
            refine hK.out _ _ ⟨(cks ne_c_n6 (cks ne_c_n6 (cks ne_c_n6 (cks ne_c_n6 hHeld.1)))), (cks ne_c_n6 (cks ne_c_n6 (cks ne_c_n6 (cks ne_c_n6 hHeld.2.1)))), (cks ne_c_n6 (cks ne_c_n6 (cks ne_c_n6 (cks ne_c_n6 hHeld.2.2.1)))), (cks ne_c_n6 (cks ne_c_n6 (cks ne_c_n6 (cks ne_c_n6 hHeld.2.2.2))))⟩ (fun hHeld => ?_)
            clear hK K
            (try simp only [List.setIfInBounds_toArray, List.set_cons_zero, List.set_cons_succ])
            obtain ⟨X5, eY⟩ : ∃ Y, Y = ((((X4.setCell ⟨g4, 0, none⟩ (.int .i64 0)).setCell ⟨g4, 1, none⟩ (.int .i64 0)).setCell ⟨g4, 2, none⟩ (.int .i64 0)).setCell ⟨g4, 3, none⟩ (.int .i64 0)) := ⟨_, rfl⟩
            rw [← eY] at hHeld ⊢
            replace k_c : X5.heap[w.heap.size]? = some (.cells #[.int .i64 q.a, .int .i64 q.b, .int .i64 q.c, .int .i64 q.d] 23 (0, 0)) := by rw [eY]; exact (bks ne_c_n6 (bks ne_c_n6 (bks ne_c_n6 (bks ne_c_n6 k_c))))
            replace bw : Below w.heap.size w X5 := by rw [eY]; exact (bss lo_n6 (bss lo_n6 (bss lo_n6 (bss lo_n6 bw))))
            replace k_n6 : X5.heap[g4]? = some (.cells #[.int .i64 0, .int .i64 0, .int .i64 0, .int .i64 0] 25 (0, 0)) := by rw [eY]; exact q4s k_n6
            clear eY
            refine takx (i := 10) (D := 7) (v := .bool false) rfl rfl (by kernel_rfl) (by kernel_rfl) (by kernel_rfl) (fun _ _ _ h => h) (Or.inl ⟨by rfl, fun W hSw => by (try dsimp only at hSw); go_simp⟩) (by assumption) ?_
            (try simp only [List.setIfInBounds_toArray, List.set_cons_zero, List.set_cons_succ])
            refine wpAnyH_done (by kernel_rfl) ?_ _
            go_wp2_with fail
            go_meet
            exact ⟨_, rfl, rfl, k_n6, k_c, bw⟩
          · go_simp
            refine hK.out _ _ ⟨cka hHeld.1, cka hHeld.2.1, cka hHeld.2.2.1, cka hHeld.2.2.2⟩ (fun hHeld => ?_)
            clear hK K
            (try simp only [List.setIfInBounds_toArray, List.set_cons_zero, List.set_cons_succ])
            obtain ⟨X6, g6, eY, eg⟩ : ∃ Y g, Y = X2.alloc (.cells #[.int .i64 0, .int .i64 0, .int .i64 0, .int .i64 0] 25) ∧ g = X2.heap.size := ⟨_, _, rfl, rfl⟩
            rw [← eY, ← eg]
            rw [← eY] at hHeld
            have bc : Below X2.heap.size X2 X6 := by rw [eY]; exact (Below.refl _ _).alloc (Nat.le_refl _) _
            have k_n6 : X6.heap[g6]? = some (.cells #[.int .i64 0, .int .i64 0, .int .i64 0, .int .i64 0] 25 (0, 0)) := by rw [eY, eg]; exact heap_alloc_new X2 _
            have lo_n6 : w.heap.size ≤ g6 := by rw [eg]; exact bw.size
            have ne_c_n6 : ¬ w.heap.size = g6 := ne_new k_c eg
            replace k_c := bk bc k_c
            replace bw := bs bc bw
            (try replace r1 := (r1.below bc).more bc.size)
            clear bc eY eg
            refine wpAnyH_ready (rs := [4]) (by kernel_rfl) (by simp) ?_
            refine (AllReadyH.cons rfl (fun K hK => ?_) AllReadyH.nil)
            go_simp
            refine (palConv0 n cp1 A1 qs (q.a) (q.b) (q.c) (q.d) _ r1 h0).mono ?_
            rintro e X7 ⟨rfl, bc⟩
            refine hK.out _ _ ⟨ck bc hHeld.1, ck bc hHeld.2.1, ck bc hHeld.2.2.1, ck bc hHeld.2.2.2⟩ (fun hHeld => ?_)
            clear hK K
            (try simp only [List.setIfInBounds_toArray, List.set_cons_zero, List.set_cons_succ])
            replace k_c := bk bc k_c
            replace k_n6 := bk bc k_n6
            replace bw := bs bc bw
            (try replace r1 := (r1.below bc).more bc.size)
            clear bc
            refine takx (i := 5) (D := 24) (v := .tuple #[.agg #[.int .i64 0, .int .i64 0, .int .i64 0, .int .i64 0], .bool false]) rfl rfl (by kernel_rfl) (by kernel_rfl) (by kernel_rfl) (fun _ _ _ h => h) (Or.inl ⟨by rfl, fun W hSw => by (try dsimp only at hSw); go_simp⟩) (by assumption) ?_
            (try simp only [List.setIfInBounds_toArray, List.set_cons_zero, List.set_cons_succ])
            refine takx (i := 6) (D := 30) (v := .agg #[.int .i64 0, .int .i64 0, .int .i64 0, .int .i64 0]) rfl rfl (by kernel_rfl) (by kernel_rfl) (by kernel_rfl) (fun _ _ _ h => h) (Or.inl ⟨by rfl, fun W hSw => by (try dsimp only at hSw); go_simp⟩) (by assumption) ?_
            (try simp only [List.setIfInBounds_toArray, List.set_cons_zero, List.set_cons_succ])
            refine takx (i := 7) (D := 31) (v := .bool false) rfl rfl (by kernel_rfl) (by kernel_rfl) (by kernel_rfl) (fun _ _ _ h => h) (Or.inl ⟨by rfl, fun W hSw => by (try dsimp only at hSw); go_simp⟩) (by assumption) ?_
            (try simp only [List.setIfInBounds_toArray, List.set_cons_zero, List.set_cons_succ])
            refine wpAnyH_ready (rs := [9]) (by kernel_rfl) (by simp) ?_
            refine (AllReadyH.cons rfl (fun K hK => ?_) AllReadyH.nil)
            have qq := q4c k_n6
            go_simp
            clear qq
            refine hK.out _ _ ⟨(cks ne_c_n6 (cks ne_c_n6 (cks ne_c_n6 (cks ne_c_n6 hHeld.1)))), (cks ne_c_n6 (cks ne_c_n6 (cks ne_c_n6 (cks ne_c_n6 hHeld.2.1)))), (cks ne_c_n6 (cks ne_c_n6 (cks ne_c_n6 (cks ne_c_n6 hHeld.2.2.1)))), (cks ne_c_n6 (cks ne_c_n6 (cks ne_c_n6 (cks ne_c_n6 hHeld.2.2.2))))⟩ (fun hHeld => ?_)
            clear hK K
            (try simp only [List.setIfInBounds_toArray, List.set_cons_zero, List.set_cons_succ])
            obtain ⟨X8, eY⟩ : ∃ Y, Y = ((((X7.setCell ⟨g6, 0, none⟩ (.int .i64 0)).setCell ⟨g6, 1, none⟩ (.int .i64 0)).setCell ⟨g6, 2, none⟩ (.int .i64 0)).setCell ⟨g6, 3, none⟩ (.int .i64 0)) := ⟨_, rfl⟩
            rw [← eY] at hHeld ⊢
            replace k_c : X8.heap[w.heap.size]? = some (.cells #[.int .i64 q.a, .int .i64 q.b, .int .i64 q.c, .int .i64 q.d] 23 (0, 0)) := by rw [eY]; exact (bks ne_c_n6 (bks ne_c_n6 (bks ne_c_n6 (bks ne_c_n6 k_c))))
            replace bw : Below w.heap.size w X8 := by rw [eY]; exact (bss lo_n6 (bss lo_n6 (bss lo_n6 (bss lo_n6 bw))))
            replace k_n6 : X8.heap[g6]? = some (.cells #[.int .i64 0, .int .i64 0, .int .i64 0, .int .i64 0] 25 (0, 0)) := by rw [eY]; exact q4s k_n6
            clear eY
            refine takx (i := 10) (D := 7) (v := .bool false) rfl rfl (by kernel_rfl) (by kernel_rfl) (by kernel_rfl) (fun _ _ _ h => h) (Or.inl ⟨by rfl, fun W hSw => by (try dsimp only at hSw); go_simp⟩) (by assumption) ?_
            (try simp only [List.setIfInBounds_toArray, List.set_cons_zero, List.set_cons_succ])
            refine wpAnyH_done (by kernel_rfl) ?_ _
            go_wp2_with fail
            go_meet
            exact ⟨_, rfl, rfl, k_n6, k_c, bw⟩
        · go_simp
          refine hK.out _ _ ⟨cka hHeld.1, cka hHeld.2.1, cka hHeld.2.2.1, cka hHeld.2.2.2⟩ (fun hHeld => ?_)
          clear hK K
          (try simp only [List.setIfInBounds_toArray, List.set_cons_zero, List.set_cons_succ])
          obtain ⟨X9, g9, eY, eg⟩ : ∃ Y g, Y = X1.alloc (.cells #[.int .i64 0, .int .i64 0, .int .i64 0, .int .i64 0] 25) ∧ g = X1.heap.size := ⟨_, _, rfl, rfl⟩
          rw [← eY, ← eg]
          rw [← eY] at hHeld
          have bc : Below X1.heap.size X1 X9 := by rw [eY]; exact (Below.refl _ _).alloc (Nat.le_refl _) _
          have k_n6 : X9.heap[g9]? = some (.cells #[.int .i64 0, .int .i64 0, .int .i64 0, .int .i64 0] 25 (0, 0)) := by rw [eY, eg]; exact heap_alloc_new X1 _
          have lo_n6 : w.heap.size ≤ g9 := by rw [eg]; exact bw.size
          have ne_c_n6 : ¬ w.heap.size = g9 := ne_new k_c eg
          replace k_c := bk bc k_c
          replace bw := bs bc bw
          (try replace r1 := (r1.below bc).more bc.size)
          clear bc eY eg
          refine wpAnyH_ready (rs := [3]) (by kernel_rfl) (by simp) ?_
          refine (AllReadyH.cons rfl (fun K hK => ?_) AllReadyH.nil)
          go_simp
          refine (toColor4 q.a q.b q.c q.d _).mono ?_
          rintro e X10 ⟨rfl, bc⟩
          refine hK.out _ _ ⟨ck bc hHeld.1, ck bc hHeld.2.1, ck bc hHeld.2.2.1, ck bc hHeld.2.2.2⟩ (fun hHeld => ?_)
          clear hK K
          (try simp only [List.setIfInBounds_toArray, List.set_cons_zero, List.set_cons_succ])
          replace k_c := bk bc k_c
          replace k_n6 := bk bc k_n6
          replace bw := bs bc bw
          (try replace r1 := (r1.below bc).more bc.size)
          clear bc
          refine wpAnyH_ready (rs := [4]) (by kernel_rfl) (by simp) ?_
          refine (AllReadyH.cons rfl (fun K hK => ?_) AllReadyH.nil)
          go_simp
          refine (palConv0 n cp1 A1 qs (q.a) (q.b) (q.c) (q.d) _ r1 h0).mono ?_
          rintro e X11 ⟨rfl, bc⟩
          refine hK.out _ _ ⟨ck bc hHeld.1, ck bc hHeld.2.1, ck bc hHeld.2.2.1, ck bc hHeld.2.2.2⟩ (fun hHeld => ?_)
          clear hK K
          (try simp only [List.setIfInBounds_toArray, List.set_cons_zero, List.set_cons_succ])
          replace k_c := bk bc k_c
          replace k_n6 := bk bc k_n6
          replace bw := bs bc bw
          (try replace r1 := (r1.below bc).more bc.size)
          clear bc
          refine takx (i := 5) (D := 24) (v := .tuple #[.agg #[.int .i64 0, .int .i64 0, .int .i64 0, .int .i64 0], .bool false]) rfl rfl (by kernel_rfl) (by kernel_rfl) (by kernel_rfl) (fun _ _ _ h => h) (Or.inl ⟨by rfl, fun W hSw => by (try dsimp only at hSw); go_simp⟩) (by assumption) ?_
          (try simp only [List.setIfInBounds_toArray, List.set_cons_zero, List.set_cons_succ])
          refine takx (i := 6) (D := 30) (v := .agg #[.int .i64 0, .int .i64 0, .int .i64 0, .int .i64 0]) rfl rfl (by kernel_rfl) (by kernel_rfl) (by kernel_rfl) (fun _ _ _ h => h) (Or.inl ⟨by rfl, fun W hSw => by (try dsimp only at hSw); go_simp⟩) (by assumption) ?_
          (try simp only [List.setIfInBounds_toArray, List.set_cons_zero, List.set_cons_succ])
          refine takx (i := 7) (D := 31) (v := .bool false) rfl rfl (by kernel_rfl) (by kernel_rfl) (by kernel_rfl) (fun _ _ _ h => h) (Or.inl ⟨by rfl, fun W hSw => by (try dsimp only at hSw); go_simp⟩) (by assumption) ?_
          (try simp only [List.setIfInBounds_toArray, List.set_cons_zero, List.set_cons_succ])
          refine wpAnyH_ready (rs := [9]) (by kernel_rfl) (by simp) ?_
          refine (AllReadyH.cons rfl (fun K hK => ?_) AllReadyH.nil)
          have qq := q4c k_n6
          go_simp
          clear qq
          refine hK.out _ _ ⟨(cks ne_c_n6 (cks ne_c_n6 (cks ne_c_n6 (cks ne_c_n6 hHeld.1)))), (cks ne_c_n6 (cks ne_c_n6 (cks ne_c_n6 (cks ne_c_n6 hHeld.2.1)))), (cks ne_c_n6 (cks ne_c_n6 (cks ne_c_n6 (cks ne_c_n6 hHeld.2.2.1)))), (cks ne_c_n6 (cks ne_c_n6 (cks ne_c_n6 (cks ne_c_n6 hHeld.2.2.2))))⟩ (fun hHeld => ?_)
          clear hK K
          (try simp only [List.setIfInBounds_toArray, List.set_cons_zero, List.set_cons_succ])
          obtain ⟨X12, eY⟩ : ∃ Y, Y = ((((X11.setCell ⟨g9, 0, none⟩ (.int .i64 0)).setCell ⟨g9, 1, none⟩ (.int .i64 0)).setCell ⟨g9, 2, none⟩ (.int .i64 0)).setCell ⟨g9, 3, none⟩ (.int .i64 0)) := ⟨_, rfl⟩
          rw [← eY] at hHeld ⊢
          replace k_c : X12.heap[w.heap.size]? = some (.cells #[.int .i64 q.a, .int .i64 q.b, .int .i64 q.c, .int .i64 q.d] 23 (0, 0)) := by rw [eY]; exact (bks ne_c_n6 (bks ne_c_n6 (bks ne_c_n6 (bks ne_c_n6 k_c))))
          replace bw : Below w.heap.size w X12 := by rw [eY]; exact (bss lo_n6 (bss lo_n6 (bss lo_n6 (bss lo_n6 bw))))
          replace k_n6 : X12.heap[g9]? = some (.cells #[.int .i64 0, .int .i64 0, .int .i64 0, .int .i64 0] 25 (0, 0)) := by rw [eY]; exact q4s k_n6
          clear eY
          refine takx (i := 10) (D := 7) (v := .bool false) rfl rfl (by kernel_rfl) (by kernel_rfl) (by kernel_rfl) (fun _ _ _ h => h) (Or.inl ⟨by rfl, fun W hSw => by (try dsimp only at hSw); go_simp⟩) (by assumption) ?_
          (try simp only [List.setIfInBounds_toArray, List.set_cons_zero, List.set_cons_succ])
          refine wpAnyH_done (by kernel_rfl) ?_ _
          go_wp2_with fail
          go_meet
          exact ⟨_, rfl, rfl, k_n6, k_c, bw⟩
      · go_simp
        refine hK.out _ _ ⟨cka hHeld.1, cka hHeld.2.1, cka hHeld.2.2.1, cka hHeld.2.2.2⟩ (fun hHeld => ?_)
        clear hK K
        (try simp only [List.setIfInBounds_toArray, List.set_cons_zero, List.set_cons_succ])
        obtain ⟨X13, g13, eY, eg⟩ : ∃ Y g, Y = X0.alloc (.cells #[.int .i64 0, .int .i64 0, .int .i64 0, .int .i64 0] 25) ∧ g = X0.heap.size := ⟨_, _, rfl, rfl⟩
        rw [← eY, ← eg]
        rw [← eY] at hHeld
        have bc : Below X0.heap.size X0 X13 := by rw [eY]; exact (Below.refl _ _).alloc (Nat.le_refl _) _
        have k_n6 : X13.heap[g13]? = some (.cells #[.int .i64 0, .int .i64 0, .int .i64 0, .int .i64 0] 25 (0, 0)) := by rw [eY, eg]; exact heap_alloc_new X0 _
        have lo_n6 : w.heap.size ≤ g13 := by rw [eg]; exact bw.size
        have ne_c_n6 : ¬ w.heap.size = g13 := ne_new k_c eg
        replace k_c := bk bc k_c
        replace bw := bs bc bw
        (try replace r1 := (r1.below bc).more bc.size)
        clear bc eY eg
        refine wpAnyH_ready (rs := [1]) (by kernel_rfl) (by simp) ?_
        refine (AllReadyH.cons rfl (fun K hK => ?_) AllReadyH.nil)
        go_simp
        refine (toColors_any n cp A qs _ ((HR.out.below bw).more bw.size)).mono ?_
        rintro e X14 ⟨A1, cp1, rfl, r1, lo1, bc⟩
        refine hK.out _ _ ⟨ck bc hHeld.1, ck bc hHeld.2.1, ck bc hHeld.2.2.1, ck bc hHeld.2.2.2⟩ (fun hHeld => ?_)
        clear hK K
        (try simp only [List.setIfInBounds_toArray, List.set_cons_zero, List.set_cons_succ])
        replace k_c := bk bc k_c
        replace k_n6 := bk bc k_n6
        replace bw := bs bc bw
        (try replace r1 := (r1.below bc).more bc.size)
        clear bc
        refine wpAnyH_ready (rs := [3]) (by kernel_rfl) (by simp) ?_
        refine (AllReadyH.cons rfl (fun K hK => ?_) AllReadyH.nil)
        go_simp
        refine (toColor4 q.a q.b q.c q.d _).mono ?_
        rintro e X15 ⟨rfl, bc⟩
        refine hK.out _ _ ⟨ck bc hHeld.1, ck bc hHeld.2.1, ck bc hHeld.2.2.1, ck bc hHeld.2.2.2⟩ (fun hHeld => ?_)
        clear hK K
        (try simp only [List.setIfInBounds_toArray, List.set_cons_zero, List.set_cons_succ])
        replace k_c := bk bc k_c
        replace k_n6 := bk bc k_n6
        replace bw := bs bc bw
        (try replace r1 := (r1.below bc).more bc.size)
        clear bc
        refine wpAnyH_ready (rs := [4]) (by kernel_rfl) (by simp) ?_
        refine (AllReadyH.cons rfl (fun K hK => ?_) AllReadyH.nil)
        go_simp
        refine (palConv0 n cp1 A1 qs (q.a) (q.b) (q.c) (q.d) _ r1 h0).mono ?_
        rintro e X16 ⟨rfl, bc⟩
        refine hK.out _ _ ⟨ck bc hHeld.1, ck bc hHeld.2.1, ck bc hHeld.2.2.1, ck bc hHeld.2.2.2⟩ (fun hHeld => ?_)
        clear hK K
        (try simp only [List.setIfInBounds_toArray, List.set_cons_zero, List.set_cons_succ])
        replace k_c := bk bc k_c
        replace k_n6 := bk bc k_n6
        replace bw := bs bc bw
        (try replace r1 := (r1.below bc).more bc.size)
        clear bc
        refine takx (i := 5) (D := 24) (v := .tuple #[.agg #[.int .i64 0, .int .i64 0, .int .i64 0, .int .i64 0], .bool false]) rfl rfl (by kernel_rfl) (by kernel_rfl) (by kernel_rfl) (fun _ _ _ h => h) (Or.inl ⟨by rfl, fun W hSw => by (try dsimp only at hSw); go_simp⟩) (by assumption) ?_
        (try simp only [List.setIfInBounds_toArray, List.set_cons_zero, List.set_cons_succ])
        refine takx (i := 6) (D := 30) (v := .agg #[.int .i64 0, .int .i64 0, .int .i64 0, .int .i64 0]) rfl rfl (by kernel_rfl) (by kernel_rfl) (by kernel_rfl) (fun _ _ _ h => h) (Or.inl ⟨by rfl, fun W hSw => by (try dsimp only at hSw); go_simp⟩) (by assumption) ?_
        (try simp only [List.setIfInBounds_toArray, List.set_cons_zero, List.set_cons_succ])
        refine takx (i := 7) (D := 31) (v := .bool false) rfl rfl (by kernel_rfl) (by kernel_rfl) (by kernel_rfl) (fun _ _ _ h => h) (Or.inl ⟨by rfl, fun W hSw => by (try dsimp only at hSw); go_simp⟩) (by assumption) ?_
        (try simp only [List.setIfInBounds_toArray, List.set_cons_zero, List.set_cons_succ])
        refine wpAnyH_ready (rs := [9]) (by kernel_rfl) (by simp) ?_
        refine (AllReadyH.cons rfl (fun K hK => ?_) AllReadyH.nil)
        have qq := q4c k_n6
        go_simp
        clear qq
        refine hK.out _ _ ⟨(cks ne_c_n6 (cks ne_c_n6 (cks ne_c_n6 (cks ne_c_n6 hHeld.1)))), (cks ne_c_n6 (cks ne_c_n6 (cks ne_c_n6 (cks ne_c_n6 hHeld.2.1)))), (cks ne_c_n6 (cks ne_c_n6 (cks ne_c_n6 (cks ne_c_n6 hHeld.2.2.1)))), (cks ne_c_n6 (cks ne_c_n6 (cks ne_c_n6 (cks ne_c_n6 hHeld.2.2.2))))⟩ (fun hHeld => ?_)
        clear hK K
        (try simp only [List.setIfInBounds_toArray, List.set_cons_zero, List.set_cons_succ])
        obtain ⟨X17, eY⟩ : ∃ Y, Y = ((((X16.setCell ⟨g13, 0, none⟩ (.int .i64 0)).setCell ⟨g13, 1, none⟩ (.int .i64 0)).setCell ⟨g13, 2, none⟩ (.int .i64 0)).setCell ⟨g13, 3, none⟩ (.int .i64 0)) := ⟨_, rfl⟩
        rw [← eY] at hHeld ⊢
        replace k_c : X17.heap[w.heap.size]? = some (.cells #[.int .i64 q.a, .int .i64 q.b, .int .i64 q.c, .int .i64 q.d] 23 (0, 0)) := by rw [eY]; exact (bks ne_c_n6 (bks ne_c_n6 (bks ne_c_n6 (bks ne_c_n6 k_c))))
        replace bw : Below w.heap.size w X17 := by rw [eY]; exact (bss lo_n6 (bss lo_n6 (bss lo_n6 (bss lo_n6 bw))))
        replace k_n6 : X17.heap[g13]? = some (.cells #[.int .i64 0, .int .i64 0, .int .i64 0, .int .i64 0] 25 (0, 0)) := by rw [eY]; exact q4s k_n6
        clear eY
        refine takx (i := 10) (D := 7) (v := .bool false) rfl rfl (by kernel_rfl) (by kernel_rfl) (by kernel_rfl) (fun _ _ _ h => h) (Or.inl ⟨by rfl, fun W hSw => by (try dsimp only at hSw); go_simp⟩) (by assumption) ?_
        (try simp only [List.setIfInBounds_toArray, List.set_cons_zero, List.set_cons_succ])
        refine wpAnyH_done (by kernel_rfl) ?_ _
        go_wp2_with fail
        go_meet
        exact ⟨_, rfl, rfl, k_n6, k_c, bw⟩
    case rest =>
      clear k_c bw
      obtain ⟨g, rfl, rfl, k_x, k_c, BW⟩ := hcut
      have bw := BW.out
      go_upto_region 5 with fail
      go_cut [8, 9] (fun sx so wx => ∃ (g2 : Nat), sx = .pointer (some ⟨g2, 0, none⟩) ∧ so = .bool false ∧ wx.heap[g2]? = some (.cells #[.int .i64 0, .int .i64 0, .int .i64 0, .int .i64 0] 25 (0, 0)) ∧ wx.heap[w.heap.size]? = some (.cells #[.int .i64 q.a, .int .i64 q.b, .int .i64 q.c, .int .i64 q.d] 23 (0, 0)) ∧ wx.heap[g]? = some (.cells #[.int .i64 0, .int .i64 0, .int .i64 0, .int .i64 0] 25 (0, 0)) ∧ Hid (Below w.heap.size w wx))
      case first =>
        refine wp_region_held_drew (S := fun w' => w'.cell? ⟨w.heap.size, 0, none⟩ = some (.int .i64 q.a) ∧ w'.cell? ⟨w.heap.size, 1, none⟩ = some (.int .i64 q.b) ∧ w'.cell? ⟨w.heap.size, 2, none⟩ = some (.int .i64 q.c) ∧ w'.cell? ⟨w.heap.size, 3, none⟩ = some (.int .i64 q.d)) (by kernel_rfl) ⟨(q4c k_c).1.1, (q4c k_c).1.2.1, (q4c k_c).1.2.2.1, (q4c k_c).1.2.2.2⟩ ?_
        intro hHeld
        obtain ⟨X0, eX, bc⟩ : ∃ X, X = wc.drew ∧ Below wc.heap.size wc X := ⟨_, rfl, (Below.refl _ _).drew⟩
        rw [← eX] at hHeld ⊢
        replace k_c := bk bc k_c
        replace k_x := bk bc k_x
        replace bw := bs bc bw
        (try replace r1 := (r1.below bc).more bc.size)
        clear eX bc
        refine takx (i := 0) (D := 33) (v := .slice A n cp) rfl rfl (by kernel_rfl) (by kernel_rfl) (by kernel_rfl) (fun _ _ _ h => h) (Or.inl ⟨by rfl, fun W hSw => by (try dsimp only at hSw); go_simp⟩) (by assumption) ?_
        (try simp only [List.setIfInBounds_toArray, List.set_cons_zero, List.set_cons_succ])
        refine takx (i := 2) (D := 35) (v := .agg #[.int .i64 q.a, .int .i64 q.b, .int .i64 q.c, .int .i64 q.d]) rfl rfl (by kernel_rfl) (by kernel_rfl) (by kernel_rfl) (fun _ _ _ h => h) (Or.inl ⟨by rfl, fun W hSw => by (try dsimp only at hSw); go_simp⟩) (by assumption) ?_
        (try simp only [List.setIfInBounds_toArray, List.set_cons_zero, List.set_cons_succ])
        refine wpAnyH_ready (rs := [1, 8]) (by kernel_rfl) (by simp) ?_
        refine (AllReadyH.cons rfl (fun K hK => ?_) (AllReadyH.cons rfl (fun K hK => ?_) AllReadyH.nil))
        · go_simp
          refine (toColors_any n cp A qs _ ((HR.out.below bw).more bw.size)).mono ?_
          rintro e X1 ⟨A1, cp1, rfl, r1, lo1, bc⟩
          refine hK.out _ _ ⟨ck bc hHeld.1, ck bc hHeld.2.1, ck bc hHeld.2.2.1, ck bc hHeld.2.2.2⟩ (fun hHeld => ?_)
          clear hK K
          (try simp only [List.setIfInBounds_toArray, List.set_cons_zero, List.set_cons_succ])
          replace k_c := bk bc k_c
          replace k_x := bk bc k_x
          replace bw := bs bc bw
          (try replace r1 := (r1.below bc).more bc.size)
          clear bc
          refine wpAnyH_ready (rs := [3, 8]) (by kernel_rfl) (by simp) ?_
          refine (AllReadyH.cons rfl (fun K hK => ?_) (AllReadyH.cons rfl (fun K hK => ?_) AllReadyH.nil))
          · go_simp
            refine (toColor4 q.a q.b q.c q.d _).mono ?_
            rintro e X2 ⟨rfl, bc⟩
            refine hK.out _ _ ⟨ck bc hHeld.1, ck bc hHeld.2.1, ck bc hHeld.2.2.1, ck bc hHeld.2.2.2⟩ (fun hHeld => ?_)
            clear hK K
            (try simp only [List.setIfInBounds_toArray, List.set_cons_zero, List.set_cons_succ])
            replace k_c := bk bc k_c
            replace k_x := bk bc k_x
            replace bw := bs bc bw
            (try replace r1 := (r1.below bc).more bc.size)
            clear bc
            refine wpAnyH_ready (rs := [4, 8]) (by kernel_rfl) (by simp) ?_
            refine (AllReadyH.cons rfl (fun K hK => ?_) (AllReadyH.cons rfl (fun K hK => ?_) AllReadyH.nil))
            · go_simp
              refine (sPalConv0 n cp1 A1 (q.a) (q.b) (q.c) (q.d) _ h0).mono ?_
              rintro e X3 ⟨rfl, bc⟩
              refine hK.out _ _ ⟨ck bc hHeld.1, ck bc hHeld.2.1, ck bc hHeld.2.2.1, ck bc hHeld.2.2.2⟩ (fun hHeld => ?_)
              clear hK K
              (try simp only [List.setIfInBounds_toArray, List.set_cons_zero, List.set_cons_succ])
              replace k_c := bk bc k_c
              replace k_x := bk bc k_x
              replace bw := bs bc bw
              (try replace r1 := (r1.below bc).more bc.size)
              clear bc
              refine takx (i := 5) (D := 32) (v := .tuple #[.agg #[.int .i64 0, .int .i64 0, .int .i64 0, .int .i64 0], .bool false]) rfl rfl (by kernel_rfl) (by kernel_rfl) (by kernel_rfl) (fun _ _ _ h => h) (Or.inl ⟨by rfl, fun W hSw => by (try dsimp only at hSw); go_simp⟩) (by assumption) ?_
              (try simp only [List.setIfInBounds_toArray, List.set_cons_zero, List.set_cons_succ])
              refine takx (i := 6) (D := 38) (v := .agg #[.int .i64 0, .int .i64 0, .int .i64 0, .int .i64 0]) rfl rfl (by kernel_rfl) (by kernel_rfl) (by kernel_rfl) (fun _ _ _ h => h) (Or.inl ⟨by rfl, fun W hSw => by (try dsimp only at hSw); go_simp⟩) (by assumption) ?_
              (try simp only [List.setIfInBounds_toArray, List.set_cons_zero, List.set_cons_succ])
              refine takx (i := 7) (D := 39) (v := .bool false) rfl rfl (by kernel_rfl) (by kernel_rfl) (by kernel_rfl) (fun _ _ _ h => h) (Or.inl ⟨by rfl, fun W hSw => by (try dsimp only at hSw); go_simp⟩) (by assumption) ?_
              (try simp only [List.setIfInBounds_toArray, List.set_cons_zero, List.set_cons_succ])
              refine wpAnyH_ready (rs := [8]) (by kernel_rfl) (by simp) ?_
              refine (AllReadyH.cons rfl (fun K hK => ?_) AllReadyH.nil)
              go_simp
              refine hK.out _ _ ⟨cka hHeld.1, cka hHeld.2.1, cka hHeld.2.2.1, cka hHeld.2.2.2⟩ (fun hHeld => ?_)
              clear hK K
              (try simp only [List.setIfInBounds_toArray, List.set_cons_zero, List.set_cons_succ])
              obtain ⟨X4, g4, eY, eg⟩ : ∃ Y g, Y = X3.alloc (.cells #[.int .i64 0, .int .i64 0, .int .i64 0, .int .i64 0] 25) ∧ g = X3.heap.size := ⟨_, _, rfl, rfl⟩
              rw [← eY, ← eg]
              rw [← eY] at hHeld
              have bc : Below X3.heap.size X3 X4 := by rw [eY]; exact (Below.refl _ _).alloc (Nat.le_refl _) _
              have k_n8 : X4.heap[g4]? = some (.cells #[.int .i64 0, .int .i64 0, .int .i64 0, .int .i64 0] 25 (0, 0)) := by rw [eY, eg]; exact heap_alloc_new X3 _
              have lo_n8 : w.heap.size ≤ g4 := by rw [eg]; exact bw.size
              have ne_c_n8 : ¬ w.heap.size = g4 := ne_new k_c eg
              have ne_x_n8 : ¬ g = g4 := ne_new k_x eg
              replace k_c := bk bc k_c
              replace k_x := bk bc k_x
              replace bw := bs bc bw
              (try replace r1 := (r1.below bc).more bc.size)
              clear bc eY eg
              refine wpAnyH_ready (rs := [9]) (by kernel_rfl) (by simp) ?_
              refine (AllReadyH.cons rfl (fun K hK => ?_) AllReadyH.nil)
              have qq := q4c k_n8
              go_simp
              clear qq
              refine hK.out _ _ ⟨(cks ne_c_n8 (cks ne_c_n8 (cks ne_c_n8 (cks ne_c_n8 hHeld.1)))), (cks ne_c_n8 (cks ne_c_n8 (cks ne_c_n8 (cks ne_c_n8 hHeld.2.1)))), (cks ne_c_n8 (cks ne_c_n8 (cks ne_c_n8 (cks ne_c_n8 hHeld.2.2.1)))), (cks ne_c_n8 (cks ne_c_n8 (cks ne_c_n8 (cks ne_c_n8 hHeld.2.2.2))))⟩ (fun hHeld => ?_)
              clear hK K
              (try simp only [List.setIfInBounds_toArray, List.set_cons_zero, List.set_cons_succ])
              obtain ⟨X5, eY⟩ : ∃ Y, Y = ((((X4.setCell ⟨g4, 0, none⟩ (.int .i64 0)).setCell ⟨g4, 1, none⟩ (.int .i64 0)).setCell ⟨g4, 2, none⟩ (.int .i64 0)).setCell ⟨g4, 3, none⟩ (.int .i64 0)) := ⟨_, rfl⟩
              rw [← eY] at hHeld ⊢
              replace k_c : X5.heap[w.heap.size]? = some (.cells #[.int .i64 q.a, .int .i64 q.b, .int .i64 q.c, .int .i64 q.d] 23 (0, 0)) := by rw [eY]; exact (bks ne_c_n8 (bks ne_c_n8 (bks ne_c_n8 (bks ne_c_n8 k_c))))
              replace k_x : X5.heap[g]? = some (.cells #[.int .i64 0, .int .i64 0, .int .i64 0, .int .i64 0] 25 (0, 0)) := by rw [eY]; exact (bks ne_x_n8 (bks ne_x_n8 (bks ne_x_n8 (bks ne_x_n8 k_x))))
              replace bw : Below w.heap.size w X5 := by rw [eY]; exact (bss lo_n8 (bss lo_n8 (bss lo_n8 (bss lo_n8 bw))))
              replace k_n8 : X5.heap[g4]? = some (.cells #[.int .i64 0, .int .i64 0, .int .i64 0, .int .i64 0] 25 (0, 0)) := by rw [eY]; exact q4s k_n8
              clear eY
              refine takx (i := 10) (D := 9) (v := .bool false) rfl rfl (by kernel_rfl) (by kernel_rfl) (by kernel_rfl) (fun _ _ _ h => h) (Or.inl ⟨by rfl, fun W hSw => by (try dsimp only at hSw); go_simp⟩) (by assumption) ?_
              (try simp only [List.setIfInBounds_toArray, List.set_cons_zero, List.set_cons_succ])
              refine wpAnyH_done (by kernel_rfl) ?_ _
              go_wp2_with fail
              go_meet
              exact ⟨_, rfl, rfl, k_n8, k_c, k_x, bw⟩
            · go_simp
              refine hK.out _ _ ⟨cka hHeld.1, cka hHeld.2.1, cka hHeld.2.2.1, cka hHeld.2.2.2⟩ (fun hHeld => ?_)
              clear hK K
              (try simp only [List.setIfInBounds_toArray, List.set_cons_zero, List.set_cons_succ])
              obtain ⟨X6, g6, eY, eg⟩ : ∃ Y g, Y = X2.alloc (.cells #[.int .i64 0, .int .i64 0, .int .i64 0, .int .i64 0] 25) ∧ g = X2.heap.size := ⟨_, _, rfl, rfl⟩
              rw [← eY, ← eg]
              rw [← eY] at hHeld
              have bc : Below X2.heap.size X2 X6 := by rw [eY]; exact (Below.refl _ _).alloc (Nat.le_refl _) _
              have k_n8 : X6.heap[g6]? = some (.cells #[.int .i64 0, .int .i64 0, .int .i64 0, .int .i64 0] 25 (0, 0)) := by rw [eY, eg]; exact heap_alloc_new X2 _
              have lo_n8 : w.heap.size ≤ g6 := by rw [eg]; exact bw.size
              have ne_c_n8 : ¬ w.heap.size = g6 := ne_new k_c eg
              have ne_x_n8 : ¬ g = g6 := ne_new k_x eg
              replace k_c := bk bc k_c
              replace k_x := bk bc k_x
              replace bw := bs bc bw
              (try replace r1 := (r1.below bc).more bc.size)
              clear bc eY eg
              refine wpAnyH_ready (rs := [4]) (by kernel_rfl) (by simp) ?_
              refine (AllReadyH.cons rfl (fun K hK => ?_) AllReadyH.nil)
              go_simp
              refine (sPalConv0 n cp1 A1 (q.a) (q.b) (q.c) (q.d) _ h0).mono ?_
              rintro e X7 ⟨rfl, bc⟩
              refine hK.out _ _ ⟨ck bc hHeld.1, ck bc hHeld.2.1, ck bc hHeld.2.2.1, ck bc hHeld.2.2.2⟩ (fun hHeld => ?_)
              clear hK K
              (try simp only [List.setIfInBounds_toArray, List.set_cons_zero, List.set_cons_succ])
              replace k_c := bk bc k_c
              replace k_x := bk bc k_x
              replace k_n8 := bk bc k_n8
              replace bw := bs bc bw
              (try replace r1 := (r1.below bc).more bc.size)
              clear bc
              refine takx (i := 5) (D := 32) (v := .tuple #[.agg #[.int .i64 0, .int .i64 0, .int .i64 0, .int .i64 0], .bool false]) rfl rfl (by kernel_rfl) (by kernel_rfl) (by kernel_rfl) (fun _ _ _ h => h) (Or.inl ⟨by rfl, fun W hSw => by (try dsimp only at hSw); go_simp⟩) (by assumption) ?_
              (try simp only [List.setIfInBounds_toArray, List.set_cons_zero, List.set_cons_succ])
              refine takx (i := 6) (D := 38) (v := .agg #[.int .i64 0, .int .i64 0, .int .i64 0, .int .i64 0]) rfl rfl (by kernel_rfl) (by kernel_rfl) (by kernel_rfl) (fun _ _ _ h => h) (Or.inl ⟨by rfl, fun W hSw => by (try dsimp only at hSw); go_simp⟩) (by assumption) ?_
              (try simp only [List.setIfInBounds_toArray, List.set_cons_zero, List.set_cons_succ])
              refine takx (i := 7) (D := 39) (v := .bool false) rfl rfl (by kernel_rfl) (by kernel_rfl) (by kernel_rfl) (fun _ _ _ h => h) (Or.inl ⟨by rfl, fun W hSw => by (try dsimp only at hSw); go_simp⟩) (by assumption) ?_
              (try simp only [List.setIfInBounds_toArray, List.set_cons_zero, List.set_cons_succ])
              refine wpAnyH_ready (rs := [9]) (by kernel_rfl) (by simp) ?_
              refine (AllReadyH.cons rfl (fun K hK => ?_) AllReadyH.nil)
              have qq := q4c k_n8
              go_simp
              clear qq
              refine hK.out _ _ ⟨(cks ne_c_n8 (cks ne_c_n8 (cks ne_c_n8 (cks ne_c_n8 hHeld.1)))), (cks ne_c_n8 (cks ne_c_n8 (cks ne_c_n8 (cks ne_c_n8 hHeld.2.1)))), (cks ne_c_n8 (cks ne_c_n8 (cks ne_c_n8 (cks ne_c_n8 hHeld.2.2.1)))), (cks ne_c_n8 (cks ne_c_n8 (cks ne_c_n8 (cks ne_c_n8 hHeld.2.2.2))))⟩ (fun hHeld => ?_)
              clear hK K
              (try simp only [List.setIfInBounds_toArray, List.set_cons_zero, List.set_cons_succ])
              obtain ⟨X8, eY⟩ : ∃ Y, Y = ((((X7.setCell ⟨g6, 0, none⟩ (.int .i64 0)).setCell ⟨g6, 1, none⟩ (.int .i64 0)).setCell ⟨g6, 2, none⟩ (.int .i64 0)).setCell ⟨g6, 3, none⟩ (.int .i64 0)) := ⟨_, rfl⟩
              rw [← eY] at hHeld ⊢
              replace k_c : X8.heap[w.heap.size]? = some (.cells #[.int .i64 q.a, .int .i64 q.b, .int .i64 q.c, .int .i64 q.d] 23 (0, 0)) := by rw [eY]; exact (bks ne_c_n8 (bks ne_c_n8 (bks ne_c_n8 (bks ne_c_n8 k_c))))
              replace k_x : X8.heap[g]? = some (.cells #[.int .i64 0, .int .i64 0, .int .i64 0, .int .i64 0] 25 (0, 0)) := by rw [eY]; exact (bks ne_x_n8 (bks ne_x_n8 (bks ne_x_n8 (bks ne_x_n8 k_x))))
              replace bw : Below w.heap.size w X8 := by rw [eY]; exact (bss lo_n8 (bss lo_n8 (bss lo_n8 (bss lo_n8 bw))))
              replace k_n8 : X8.heap[g6]? = some (.cells #[.int .i64 0, .int .i64 0, .int .i64 0, .int .i64 0] 25 (0, 0)) := by rw [eY]; exact q4s k_n8
              clear eY
              refine takx (i := 10) (D := 9) (v := .bool false) rfl rfl (by kernel_rfl) (by kernel_rfl) (by kernel_rfl) (fun _ _ _ h => h) (Or.inl ⟨by rfl, fun W hSw => by (try dsimp only at hSw); go_simp⟩) (by assumption) ?_
              (try simp only [List.setIfInBounds_toArray, List.set_cons_zero, List.set_cons_succ])
              refine wpAnyH_done (by kernel_rfl) ?_ _
              go_wp2_with fail
              go_meet
              exact ⟨_, rfl, rfl, k_n8, k_c, k_x, bw⟩
          · go_simp
            refine hK.out _ _ ⟨cka hHeld.1, cka hHeld.2.1, cka hHeld.2.2.1, cka hHeld.2.2.2⟩ (fun hHeld => ?_)
            clear hK K
            (try simp only [List.setIfInBounds_toArray, List.set_cons_zero, List.set_cons_succ])
            obtain ⟨X9, g9, eY, eg⟩ : ∃ Y g, Y = X1.alloc (.cells #[.int .i64 0, .int .i64 0, .int .i64 0, .int .i64 0] 25) ∧ g = X1.heap.size := ⟨_, _, rfl, rfl⟩
            rw [← eY, ← eg]
            rw [← eY] at hHeld
            have bc : Below X1.heap.size X1 X9 := by rw [eY]; exact (Below.refl _ _).alloc (Nat.le_refl _) _
            have k_n8 : X9.heap[g9]? = some (.cells #[.int .i64 0, .int .i64 0, .int .i64 0, .int .i64 0] 25 (0, 0)) := by rw [eY, eg]; exact heap_alloc_new X1 _
            have lo_n8 : w.heap.size ≤ g9 := by rw [eg]; exact bw.size
            have ne_c_n8 : ¬ w.heap.size = g9 := ne_new k_c eg
            have ne_x_n8 : ¬ g = g9 := ne_new k_x eg
            replace k_c := bk bc k_c
            replace k_x := bk bc k_x
            replace bw := bs bc bw
            (try replace r1 := (r1.below bc).more bc.size)
            clear bc eY eg
            refine wpAnyH_ready (rs := [3]) (by kernel_rfl) (by simp) ?_
            refine (AllReadyH.cons rfl (fun K hK => ?_) AllReadyH.nil)
            go_simp
            refine (toColor4 q.a q.b q.c q.d _).mono ?_
            rintro e X10 ⟨rfl, bc⟩
            refine hK.out _ _ ⟨ck bc hHeld.1, ck bc hHeld.2.1, ck bc hHeld.2.2.1, ck bc hHeld.2.2.2⟩ (fun hHeld => ?_)
            clear hK K
            (try simp only [List.setIfInBounds_toArray, List.set_cons_zero, List.set_cons_succ])
            replace k_c := bk bc k_c
            replace k_x := bk bc k_x
            replace k_n8 := bk bc k_n8
            replace bw := bs bc bw
            (try replace r1 := (r1.below bc).more bc.size)
            clear bc
            refine wpAnyH_ready (rs := [4]) (by kernel_rfl) (by simp) ?_
            refine (AllReadyH.cons rfl (fun K hK => ?_) AllReadyH.nil)
            go_simp
            refine (sPalConv0 n cp1 A1 (q.a) (q.b) (q.c) (q.d) _ h0).mono ?_
            rintro e X11 ⟨rfl, bc⟩
            refine hK.out _ _ ⟨ck bc hHeld.1, ck bc hHeld.2.1, ck bc hHeld.2.2.1, ck bc hHeld.2.2.2⟩ (fun hHeld => ?_)
            clear hK K
            (try simp only [List.setIfInBounds_toArray, List.set_cons_zero, List.set_cons_succ])
            replace k_c := bk bc k_c
            replace k_x := bk bc k_x
            replace k_n8 := bk bc k_n8
            replace bw := bs bc bw
            (try replace r1 := (r1.below bc).more bc.size)
            clear bc
            refine takx (i := 5) (D := 32) (v := .tuple #[.agg #[.int .i64 0, .int .i64 0, .int .i64 0, .int .i64 0], .bool false]) rfl rfl (by kernel_rfl) (by kernel_rfl) (by kernel_rfl) (fun _ _ _ h => h) (Or.inl ⟨by rfl, fun W hSw => by (try dsimp only at hSw); go_simp⟩) (by assumption) ?_
            (try simp only [List.setIfInBounds_toArray, List.set_cons_zero, List.set_cons_succ])
            refine takx (i := 6) (D := 38) (v := .agg #[.int .i64 0, .int .i64 0, .int .i64 0, .int .i64 0]) rfl rfl (by kernel_rfl) (by kernel_rfl) (by kernel_rfl) (fun _ _ _ h => h) (Or.inl ⟨by rfl, fun W hSw => by (try dsimp only at hSw); go_simp⟩) (by assumption) ?_
            (try simp only [List.setIfInBounds_toArray, List.set_cons_zero, List.set_cons_succ])
            refine takx (i := 7) (D := 39) (v := .bool false) rfl rfl (by kernel_rfl) (by kernel_rfl) (by kernel_rfl) (fun _ _ _ h => h) (Or.inl ⟨by rfl, fun W hSw => by (try dsimp only at hSw); go_simp⟩) (by assumption) ?_
            (try simp only [List.setIfInBounds_toArray, List.set_cons_zero, List.set_cons_succ])
            refine wpAnyH_ready (rs := [9]) (by kernel_rfl) (by simp) ?_
            refine (AllReadyH.cons rfl (fun K hK => ?_) AllReadyH.nil)
            have qq := q4c k_n8
            go_simp
            clear qq
            refine hK.out _ _ ⟨(cks ne_c_n8 (cks ne_c_n8 (cks ne_c_n8 (cks ne_c_n8 hHeld.1)))), (cks ne_c_n8 (cks ne_c_n8 (cks ne_c_n8 (cks ne_c_n8 hHeld.2.1)))), (cks ne_c_n8 (cks ne_c_n8 (cks ne_c_n8 (cks ne_c_n8 hHeld.2.2.1)))), (cks ne_c_n8 (cks ne_c_n8 (cks ne_c_n8 (cks ne_c_n8 hHeld.2.2.2))))⟩ (fun hHeld => ?_)
            clear hK K
            (try simp only [List.setIfInBounds_toArray, List.set_cons_zero, List.set_cons_succ])
            obtain ⟨X12, eY⟩ : ∃ Y, Y = ((((X11.setCell ⟨g9, 0, none⟩ (.int .i64 0)).setCell ⟨g9, 1, none⟩ (.int .i64 0)).setCell ⟨g9, 2, none⟩ (.int .i64 0)).setCell ⟨g9, 3, none⟩ (.int .i64 0)) := ⟨_, rfl⟩
            rw [← eY] at hHeld ⊢
            replace k_c : X12.heap[w.heap.size]? = some (.cells #[.int .i64 q.a, .int .i64 q.b, .int .i64 q.c, .int .i64 q.d] 23 (0, 0)) := by rw [eY]; exact (bks ne_c_n8 (bks ne_c_n8 (bks ne_c_n8 (bks ne_c_n8 k_c))))
            replace k_x : X12.heap[g]? = some (.cells #[.int .i64 0, .int .i64 0, .int .i64 0, .int .i64 0] 25 (0, 0)) := by rw [eY]; exact (bks ne_x_n8 (bks ne_x_n8 (bks ne_x_n8 (bks ne_x_n8 k_x))))
            replace bw : Below w.heap.size w X12 := by rw [eY]; exact (bss lo_n8 (bss lo_n8 (bss lo_n8 (bss lo_n8 bw))))
            replace k_n8 : X12.heap[g9]? = some (.cells #[.int .i64 0, .int .i64 0, .int .i64 0, .int .i64 0] 25 (0, 0)) := by rw [eY]; exact q4s k_n8
            clear eY
            refine takx (i := 10) (D := 9) (v := .bool false) rfl rfl (by kernel_rfl) (by kernel_rfl) (by kernel_rfl) (fun _ _ _ h => h) (Or.inl ⟨by rfl, fun W hSw => by (try dsimp only at hSw); go_simp⟩) (by assumption) ?_
            (try simp only [List.setIfInBounds_toArray, List.set_cons_zero, List.set_cons_succ])
            refine wpAnyH_done (by kernel_rfl) ?_ _
            go_wp2_with fail
            go_meet
            exact ⟨_, rfl, rfl, k_n8, k_c, k_x, bw⟩
        · go_simp
          refine hK.out _ _ ⟨cka hHeld.1, cka hHeld.2.1, cka hHeld.2.2.1, cka hHeld.2.2.2⟩ (fun hHeld => ?_)
          clear hK K
          (try simp only [List.setIfInBounds_toArray, List.set_cons_zero, List.set_cons_succ])
          obtain ⟨X13, g13, eY, eg⟩ : ∃ Y g, Y = X0.alloc (.cells #[.int .i64 0, .int .i64 0, .int .i64 0, .int .i64 0] 25) ∧ g = X0.heap.size := ⟨_, _, rfl, rfl⟩
          rw [← eY, ← eg]
          rw [← eY] at hHeld
          have bc : Below X0.heap.size X0 X13 := by rw [eY]; exact (Below.refl _ _).alloc (Nat.le_refl _) _
          have k_n8 : X13.heap[g13]? = some (.cells #[.int .i64 0, .int .i64 0, .int .i64 0, .int .i64 0] 25 (0, 0)) := by rw [eY, eg]; exact heap_alloc_new X0 _
          have lo_n8 : w.heap.size ≤ g13 := by rw [eg]; exact bw.size
          have ne_c_n8 : ¬ w.heap.size = g13 := ne_new k_c eg
          have ne_x_n8 : ¬ g = g13 := ne_new k_x eg
          replace k_c := bk bc k_c
          replace k_x := bk bc k_x
          replace bw := bs bc bw
          (try replace r1 := (r1.below bc).more bc.size)
          clear bc eY eg
          refine wpAnyH_ready (rs := [1]) (by kernel_rfl) (by simp) ?_
          refine (AllReadyH.cons rfl (fun K hK => ?_) AllReadyH.nil)
          go_simp
          refine (toColors_any n cp A qs _ ((HR.out.below bw).more bw.size)).mono ?_
          rintro e X14 ⟨A1, cp1, rfl, r1, lo1, bc⟩
          refine hK.out _ _ ⟨ck bc hHeld.1, ck bc hHeld.2.1, ck bc hHeld.2.2.1, ck bc hHeld.2.2.2⟩ (fun hHeld => ?_)
          clear hK K
          (try simp only [List.setIfInBounds_toArray, List.set_cons_zero, List.set_cons_succ])
          replace k_c := bk bc k_c
          replace k_x := bk bc k_x
          replace k_n8 := bk bc k_n8
          replace bw := bs bc bw
          (try replace r1 := (r1.below bc).more bc.size)
          clear bc
          refine wpAnyH_ready (rs := [3]) (by kernel_rfl) (by simp) ?_
          refine (AllReadyH.cons rfl (fun K hK => ?_) AllReadyH.nil)
          go_simp
          refine (toColor4 q.a q.b q.c q.d _).mono ?_
          rintro e X15 ⟨rfl, bc⟩
          refine hK.out _ _ ⟨ck bc hHeld.1, ck bc hHeld.2.1, ck bc hHeld.2.2.1, ck bc hHeld.2.2.2⟩ (fun hHeld => ?_)
          clear hK K
          (try simp only [List.setIfInBounds_toArray, List.set_cons_zero, List.set_cons_succ])
          replace k_c := bk bc k_c
          replace k_x := bk bc k_x
          replace k_n8 := bk bc k_n8
          replace bw := bs bc bw
          (try replace r1 := (r1.below bc).more bc.size)
          clear bc
          refine wpAnyH_ready (rs := [4]) (by kernel_rfl) (by simp) ?_
          refine (AllReadyH.cons rfl (fun K hK => ?_) AllReadyH.nil)
          go_simp
          refine (sPalConv0 n cp1 A1 (q.a) (q.b) (q.c) (q.d) _ h0).mono ?_
          rintro e X16 ⟨rfl, bc⟩
          refine hK.out _ _ ⟨ck bc hHeld.1, ck bc hHeld.2.1, ck bc hHeld.2.2.1, ck bc hHeld.2.2.2⟩ (fun hHeld => ?_)
          clear hK K
          (try simp only [List.setIfInBounds_toArray, List.set_cons_zero, List.set_cons_succ])
          replace k_c := bk bc k_c
          replace k_x := bk bc k_x
          replace k_n8 := bk bc k_n8
          replace bw := bs bc bw
          (try replace r1 := (r1.below bc).more bc.size)
          clear bc
          refine takx (i := 5) (D := 32) (v := .tuple #[.agg #[.int .i64 0, .int .i64 0, .int .i64 0, .int .i64 0], .bool false]) rfl rfl (by kernel_rfl) (by kernel_rfl) (by kernel_rfl) (fun _ _ _ h => h) (Or.inl ⟨by rfl, fun W hSw => by (try dsimp only at hSw); go_simp⟩) (by assumption) ?_
          (try simp only [List.setIfInBounds_toArray, List.set_cons_zero, List.set_cons_succ])
          refine takx (i := 6) (D := 38) (v := .agg #[.int .i64 0, .int .i64 0, .int .i64 0, .int .i64 0]) rfl rfl (by kernel_rfl) (by kernel_rfl) (by kernel_rfl) (fun _ _ _ h => h) (Or.inl ⟨by rfl, fun W hSw => by (try dsimp only at hSw); go_simp⟩) (by assumption) ?_
          (try simp only [List.setIfInBounds_toArray, List.set_cons_zero, List.set_cons_succ])
          refine takx (i := 7) (D := 39) (v := .bool false) rfl rfl (by kernel_rfl) (by kernel_rfl) (by kernel_rfl) (fun _ _ _ h => h) (Or.inl ⟨by rfl, fun W hSw => by (try dsimp only at hSw); go_simp⟩) (by assumption) ?_
          (try simp only [List.setIfInBounds_toArray, List.set_cons_zero, List.set_cons_succ])
          refine wpAnyH_ready (rs := [9]) (by kernel_rfl) (by simp) ?_
          refine (AllReadyH.cons rfl (fun K hK => ?_) AllReadyH.nil)
          have qq := q4c k_n8
          go_simp
          clear qq
          refine hK.out _ _ ⟨(cks ne_c_n8 (cks ne_c_n8 (cks ne_c_n8 (cks ne_c_n8 hHeld.1)))), (cks ne_c_n8 (cks ne_c_n8 (cks ne_c_n8 (cks ne_c_n8 hHeld.2.1)))), (cks ne_c_n8 (cks ne_c_n8 (cks ne_c_n8 (cks ne_c_n8 hHeld.2.2.1)))), (cks ne_c_n8 (cks ne_c_n8 (cks ne_c_n8 (cks ne_c_n8 hHeld.2.2.2))))⟩ (fun hHeld => ?_)
          clear hK K
          (try simp only [List.setIfInBounds_toArray, List.set_cons_zero, List.set_cons_succ])
          obtain ⟨X17, eY⟩ : ∃ Y, Y = ((((X16.setCell ⟨g13, 0, none⟩ (.int .i64 0)).setCell ⟨g13, 1, none⟩ (.int .i64 0)).setCell ⟨g13, 2, none⟩ (.int .i64 0)).setCell ⟨g13, 3, none⟩ (.int .i64 0)) := ⟨_, rfl⟩
          rw [← eY] at hHeld ⊢
          replace k_c : X17.heap[w.heap.size]? = some (.cells #[.int .i64 q.a, .int .i64 q.b, .int .i64 q.c, .int .i64 q.d] 23 (0, 0)) := by rw [eY]; exact (bks ne_c_n8 (bks ne_c_n8 (bks ne_c_n8 (bks ne_c_n8 k_c))))
          replace k_x : X17.heap[g]? = some (.cells #[.int .i64 0, .int .i64 0, .int .i64 0, .int .i64 0] 25 (0, 0)) := by rw [eY]; exact (bks ne_x_n8 (bks ne_x_n8 (bks ne_x_n8 (bks ne_x_n8 k_x))))
          replace bw : Below w.heap.size w X17 := by rw [eY]; exact (bss lo_n8 (bss lo_n8 (bss lo_n8 (bss lo_n8 bw))))
          replace k_n8 : X17.heap[g13]? = some (.cells #[.int .i64 0, .int .i64 0, .int .i64 0, .int .i64 0] 25 (0, 0)) := by rw [eY]; exact q4s k_n8
          clear eY
          refine takx (i := 10) (D := 9) (v := .bool false) rfl rfl (by kernel_rfl) (by kernel_rfl) (by kernel_rfl) (fun _ _ _ h => h) (Or.inl ⟨by rfl, fun W hSw => by (try dsimp only at hSw); go_simp⟩) (by assumption) ?_
          (try simp only [List.setIfInBounds_toArray, List.set_cons_zero, List.set_cons_succ])
          refine wpAnyH_done (by kernel_rfl) ?_ _
          go_wp2_with fail
          go_meet
          exact ⟨_, rfl, rfl, k_n8, k_c, k_x, bw⟩
      case rest =>
        clear k_c bw k_x
        obtain ⟨g2, rfl, rfl, k_y, k_c, k_x, BW⟩ := hcut
        have bw := BW.out
        have hii : ((i : Int) == (i : Int)) = true := by simp
        go_upto_region 6 with fail
        refine wp_region_held_drew (S := fun w' => w'.cell? ⟨w.heap.size, 0, none⟩ = some (.int .i64 q.a) ∧ w'.cell? ⟨w.heap.size, 1, none⟩ = some (.int .i64 q.b) ∧ w'.cell? ⟨w.heap.size, 2, none⟩ = some (.int .i64 q.c) ∧ w'.cell? ⟨w.heap.size, 3, none⟩ = some (.int .i64 q.d) ∧ w'.cell? ⟨g, 0, none⟩ = some (.int .i64 0) ∧ w'.cell? ⟨g, 1, none⟩ = some (.int .i64 0) ∧ w'.cell? ⟨g, 2, none⟩ = some (.int .i64 0) ∧ w'.cell? ⟨g, 3, none⟩ = some (.int .i64 0) ∧ w'.cell? ⟨g2, 0, none⟩ = some (.int .i64 0) ∧ w'.cell? ⟨g2, 1, none⟩ = some (.int .i64 0) ∧ w'.cell? ⟨g2, 2, none⟩ = some (.int .i64 0) ∧ w'.cell? ⟨g2, 3, none⟩ = some (.int .i64 0)) (by kernel_rfl) ⟨(q4c k_c).1.1, (q4c k_c).1.2.1, (q4c k_c).1.2.2.1, (q4c k_c).1.2.2.2, (q4c k_x).1.1, (q4c k_x).1.2.1, (q4c k_x).1.2.2.1, (q4c k_x).1.2.2.2, (q4c k_y).1.1, (q4c k_y).1.2.1, (q4c k_y).1.2.2.1, (q4c k_y).1.2.2.2⟩ ?_
        intro hHeld
        obtain ⟨X0, eX, bc⟩ : ∃ X, X = wc.drew ∧ Below wc.heap.size wc X := ⟨_, rfl, (Below.refl _ _).drew⟩
        rw [← eX] at hHeld ⊢
        replace k_c := bk bc k_c
        replace k_x := bk bc k_x
        replace k_y := bk bc k_y
        replace bw := bs bc bw
        (try replace r1 := (r1.below bc).more bc.size)
        clear eX bc
        refine takx (i := 0) (D := 40) (v := .int .i64 i) rfl rfl (by kernel_rfl) (by kernel_rfl) (by kernel_rfl) (fun _ _ _ h => h) (Or.inl ⟨by rfl, fun W hSw => by (try dsimp only at hSw); go_simp⟩) (by assumption) ?_
        (try simp only [List.setIfInBounds_toArray, List.set_cons_zero, List.set_cons_succ])
        refine takx (i := 1) (D := 41) (v := .slice A n cp) rfl rfl (by kernel_rfl) (by kernel_rfl) (by kernel_rfl) (fun _ _ _ h => h) (Or.inl ⟨by rfl, fun W hSw => by (try dsimp only at hSw); go_simp⟩) (by assumption) ?_
        (try simp only [List.setIfInBounds_toArray, List.set_cons_zero, List.set_cons_succ])
        refine takx (i := 3) (D := 43) (v := .agg #[.int .i64 q.a, .int .i64 q.b, .int .i64 q.c, .int .i64 q.d]) rfl rfl (by kernel_rfl) (by kernel_rfl) (by kernel_rfl) (fun _ _ _ h => h) (Or.inl ⟨by rfl, fun W hSw => by (try dsimp only at hSw); go_simp⟩) (by assumption) ?_
        (try simp only [List.setIfInBounds_toArray, List.set_cons_zero, List.set_cons_succ])
        refine wpAnyH_ready (rs := [2]) (by kernel_rfl) (by simp) ?_
        refine (AllReadyH.cons rfl (fun K hK => ?_) AllReadyH.nil)
        go_simp
        refine (toColors_any n cp A qs _ ((HR.out.below bw).more bw.size)).mono ?_
        rintro e X1 ⟨A1, cp1, rfl, r1, lo1, bc⟩
        refine hK.out _ _ ⟨ck bc hHeld.1, ck bc hHeld.2.1, ck bc hHeld.2.2.1, ck bc hHeld.2.2.2.1, ck bc hHeld.2.2.2.2.1, ck bc hHeld.2.2.2.2.2.1, ck bc hHeld.2.2.2.2.2.2.1, ck bc hHeld.2.2.2.2.2.2.2.1, ck bc hHeld.2.2.2.2.2.2.2.2.1, ck bc hHeld.2.2.2.2.2.2.2.2.2.1, ck bc hHeld.2.2.2.2.2.2.2.2.2.2.1, ck bc hHeld.2.2.2.2.2.2.2.2.2.2.2⟩ (fun hHeld => ?_)
        clear hK K
        (try simp only [List.setIfInBounds_toArray, List.set_cons_zero, List.set_cons_succ])
        replace k_c := bk bc k_c
        replace k_x := bk bc k_x
        replace k_y := bk bc k_y
        replace bw := bs bc bw
        (try replace r1 := (r1.below bc).more bc.size)
        clear bc
        refine wpAnyH_ready (rs := [4]) (by kernel_rfl) (by simp) ?_
        refine (AllReadyH.cons rfl (fun K hK => ?_) AllReadyH.nil)
        go_simp
        refine (toColor4 q.a q.b q.c q.d _).mono ?_
        rintro e X2 ⟨rfl, bc⟩
        refine hK.out _ _ ⟨ck bc hHeld.1, ck bc hHeld.2.1, ck bc hHeld.2.2.1, ck bc hHeld.2.2.2.1, ck bc hHeld.2.2.2.2.1, ck bc hHeld.2.2.2.2.2.1, ck bc hHeld.2.2.2.2.2.2.1, ck bc hHeld.2.2.2.2.2.2.2.1, ck bc hHeld.2.2.2.2.2.2.2.2.1, ck bc hHeld.2.2.2.2.2.2.2.2.2.1, ck bc hHeld.2.2.2.2.2.2.2.2.2.2.1, ck bc hHeld.2.2.2.2.2.2.2.2.2.2.2⟩ (fun hHeld => ?_)
        clear hK K
        (try simp only [List.setIfInBounds_toArray, List.set_cons_zero, List.set_cons_succ])
        replace k_c := bk bc k_c
        replace k_x := bk bc k_x
        replace k_y := bk bc k_y
        replace bw := bs bc bw
        (try replace r1 := (r1.below bc).more bc.size)
        clear bc
        refine wpAnyH_ready (rs := [5]) (by kernel_rfl) (by simp) ?_
        refine (AllReadyH.cons rfl (fun K hK => ?_) AllReadyH.nil)
        go_simp
        refine (sPalIndex4 n cp1 A1 qs q HQ.out _ r1).mono ?_
        rintro e X3 ⟨j, rfl, nj, bc⟩
        obtain rfl : i = j := Ni.out.unique nj
        refine hK.out _ _ ⟨ck bc hHeld.1, ck bc hHeld.2.1, ck bc hHeld.2.2.1, ck bc hHeld.2.2.2.1, ck bc hHeld.2.2.2.2.1, ck bc hHeld.2.2.2.2.2.1, ck bc hHeld.2.2.2.2.2.2.1, ck bc hHeld.2.2.2.2.2.2.2.1, ck bc hHeld.2.2.2.2.2.2.2.2.1, ck bc hHeld.2.2.2.2.2.2.2.2.2.1, ck bc hHeld.2.2.2.2.2.2.2.2.2.2.1, ck bc hHeld.2.2.2.2.2.2.2.2.2.2.2⟩ (fun hHeld => ?_)
        clear hK K
        (try simp only [List.setIfInBounds_toArray, List.set_cons_zero, List.set_cons_succ])
        replace k_c := bk bc k_c
        replace k_x := bk bc k_x
        replace k_y := bk bc k_y
        replace bw := bs bc bw
        (try replace r1 := (r1.below bc).more bc.size)
        clear nj
        clear bc
        refine takx (i := 6) (D := 46) (v := .bool true) rfl rfl (by kernel_rfl) (by kernel_rfl) (by kernel_rfl) (fun _ _ _ h => h) (Or.inl ⟨by rfl, fun W hSw => by (try dsimp only at hSw); go_simp⟩) (by assumption) ?_
        (try simp only [List.setIfInBounds_toArray, List.set_cons_zero, List.set_cons_succ])
        refine takx (i := 7) (D := 47) (v := .bool true) rfl rfl (by kernel_rfl) (by kernel_rfl) (by kernel_rfl) (fun _ _ _ h => h) (Or.inl ⟨by rfl, fun W hSw => by (try dsimp only at hSw); go_simp⟩) (by assumption) ?_
        (try simp only [List.setIfInBounds_toArray, List.set_cons_zero, List.set_cons_succ])
        refine takx (i := 8) (D := 48) (v := .bool false) rfl rfl (by kernel_rfl) (by kernel_rfl) (by kernel_rfl) (fun _ _ _ h => h) (Or.inl ⟨by rfl, fun W hSw => by (try dsimp only at hSw); go_simp⟩) (by assumption) ?_
        (try simp only [List.setIfInBounds_toArray, List.set_cons_zero, List.set_cons_succ])
        refine takx (i := 9) (D := 49) (v := .bool false) rfl rfl (by kernel_rfl) (by kernel_rfl) (by kernel_rfl) (fun _ _ _ h => h) (Or.inl ⟨by rfl, fun W hSw => by (try dsimp only at hSw); go_simp⟩) (by assumption) ?_
        (try simp only [List.setIfInBounds_toArray, List.set_cons_zero, List.set_cons_succ])
        refine takx (i := 10) (D := 50) (v := .bool true) rfl rfl (by kernel_rfl) (by kernel_rfl) (by kernel_rfl) (fun _ _ _ h => h) (Or.inl ⟨by rfl, fun W hSw => by (try dsimp only at hSw); go_simp⟩) (by assumption) ?_
        (try simp only [List.setIfInBounds_toArray, List.set_cons_zero, List.set_cons_succ])
        refine takx (i := 11) (D := 51) (v := .bool true) rfl rfl (by kernel_rfl) (by kernel_rfl) (by kernel_rfl) (fun _ _ _ h => h) (Or.inl ⟨by rfl, fun W hSw => by (try dsimp only at hSw); go_simp⟩) (by assumption) ?_
        (try simp only [List.setIfInBounds_toArray, List.set_cons_zero, List.set_cons_succ])
        refine takx (i := 12) (D := 52) (v := .bool true) rfl rfl (by kernel_rfl) (by kernel_rfl) (by kernel_rfl) (fun _ _ _ h => h) (Or.inl ⟨by rfl, fun W hSw => by (try dsimp only at hSw); go_simp⟩) (by assumption) ?_
        (try simp only [List.setIfInBounds_toArray, List.set_cons_zero, List.set_cons_succ])
        refine takx (i := 13) (D := 53) (v := .agg #[.int .i64 0, .int .i64 0, .int .i64 0, .int .i64 0]) rfl rfl (by kernel_rfl) (by kernel_rfl) (by kernel_rfl) (fun _ _ _ h => h) (Or.inl ⟨by rfl, fun W hSw => by (try dsimp only at hSw); go_simp⟩) (by assumption) ?_
        (try simp only [List.setIfInBounds_toArray, List.set_cons_zero, List.set_cons_succ])
        refine takx (i := 14) (D := 54) (v := .agg #[.int .i64 0, .int .i64 0, .int .i64 0, .int .i64 0]) rfl rfl (by kernel_rfl) (by kernel_rfl) (by kernel_rfl) (fun _ _ _ h => h) (Or.inl ⟨by rfl, fun W hSw => by (try dsimp only at hSw); go_simp⟩) (by assumption) ?_
        (try simp only [List.setIfInBounds_toArray, List.set_cons_zero, List.set_cons_succ])
        refine takx (i := 15) (D := 55) (v := .bool true) rfl rfl (by kernel_rfl) (by kernel_rfl) (by kernel_rfl) (fun _ _ _ h => h) (Or.inl ⟨by rfl, fun W hSw => by (try dsimp only at hSw); go_simp⟩) (by assumption) ?_
        (try simp only [List.setIfInBounds_toArray, List.set_cons_zero, List.set_cons_succ])
        refine takx (i := 16) (D := 56) (v := .bool true) rfl rfl (by kernel_rfl) (by kernel_rfl) (by kernel_rfl) (fun _ _ _ h => h) (Or.inl ⟨by rfl, fun W hSw => by (try dsimp only at hSw); go_simp⟩) (by assumption) ?_
        (try simp only [List.setIfInBounds_toArray, List.set_cons_zero, List.set_cons_succ])
        refine takx (i := 17) (D := 4) (v := .bool true) rfl rfl (by kernel_rfl) (by kernel_rfl) (by kernel_rfl) (fun _ _ _ h => h) (Or.inl ⟨by rfl, fun W hSw => by (try dsimp only at hSw); go_simp⟩) (by assumption) ?_
        (try simp only [List.setIfInBounds_toArray, List.set_cons_zero, List.set_cons_succ])
        refine wpAnyH_done (by kernel_rfl) ?_ _
        go_wp2_with fail
        go_ret
        exact ⟨rfl, bw⟩
  go_upto_region 4 with fail
  go_cut [6, 7] (fun sx so wx => ∃ (g ii : Nat) (x : Q4), sx = .pointer (some ⟨g, 0, none⟩) ∧ so = .bool true ∧ wx.heap[g]? = some (.cells #[.int .i64 (x.a % 256), .int .i64 (x.b % 256), .int .i64 (x.c % 256), .int .i64 (x.d % 256)] 25 (0, 0)) ∧ wx.heap[w.heap.size]? = some (.cells #[.int .i64 q.a, .int .i64 q.b, .int .i64 q.c, .int .i64 q.d] 23 (0, 0)) ∧ Hid (x = qs.getD ii default) ∧ Hid (First (qs.map (sdist q)) ii) ∧ Hid (Below w.heap.size w wx))
  case first =>
    refine wp_region_held_drew (S := fun w' => w'.cell? ⟨w.heap.size, 0, none⟩ = some (.int .i64 q.a) ∧ w'.cell? ⟨w.heap.size, 1, none⟩ = some (.int .i64 q.b) ∧ w'.cell? ⟨w.heap.size, 2, none⟩ = some (.int .i64 q.c) ∧ w'.cell? ⟨w.heap.size, 3, none⟩ = some (.int .i64 q.d)) (by kernel_rfl) ⟨(q4c k_c).1.1, (q4c k_c).1.2.1, (q4c k_c).1.2.2.1, (q4c k_c).1.2.2.2⟩ ?_
    intro hHeld
    obtain ⟨X0, eX, bc⟩ : ∃ X, X = W.drew ∧ Below W.heap.size W X := ⟨_, rfl, (Below.refl _ _).drew⟩
    rw [← eX] at hHeld ⊢
    replace k_c := bk bc k_c
    replace bw := bs bc bw
    (try replace r1 := (r1.below bc).more bc.size)
    clear eX bc
    refine takx (i := 0) (D := 25) (v := .slice A n cp) rfl rfl (by kernel_rfl) (by kernel_rfl) (by kernel_rfl) (fun _ _ _ h => h) (Or.inl ⟨by rfl, fun W hSw => by (try dsimp only at hSw); go_simp⟩) (by assumption) ?_
    (try simp only [List.setIfInBounds_toArray, List.set_cons_zero, List.set_cons_succ])
    refine takx (i := 2) (D := 27) (v := .agg #[.int .i64 q.a, .int .i64 q.b, .int .i64 q.c, .int .i64 q.d]) rfl rfl (by kernel_rfl) (by kernel_rfl) (by kernel_rfl) (fun _ _ _ h => h) (Or.inl ⟨by rfl, fun W hSw => by (try dsimp only at hSw); go_simp⟩) (by assumption) ?_
    (try simp only [List.setIfInBounds_toArray, List.set_cons_zero, List.set_cons_succ])
    refine wpAnyH_ready (rs := [1, 8]) (by kernel_rfl) (by simp) ?_
    refine (AllReadyH.cons rfl (fun K hK => ?_) (AllReadyH.cons rfl (fun K hK => ?_) AllReadyH.nil))
    · go_simp
      refine (toColors_any n cp A qs _ ((HR.out.below bw).more bw.size)).mono ?_
      rintro e X1 ⟨A1, cp1, rfl, r1, lo1, bc⟩
      refine hK.out _ _ ⟨ck bc hHeld.1, ck bc hHeld.2.1, ck bc hHeld.2.2.1, ck bc hHeld.2.2.2⟩ (fun hHeld => ?_)
      clear hK K
      (try simp only [List.setIfInBounds_toArray, List.set_cons_zero, List.set_cons_succ])
      replace k_c := bk bc k_c
      replace bw := bs bc bw
      (try replace r1 := (r1.below bc).more bc.size)
      clear bc
      refine wpAnyH_ready (rs := [3, 8]) (by kernel_rfl) (by simp) ?_
      refine (AllReadyH.cons rfl (fun K hK => ?_) (AllReadyH.cons rfl (fun K hK => ?_) AllReadyH.nil))
      · go_simp
        refine (toColor4 q.a q.b q.c q.d _).mono ?_
        rintro e X2 ⟨rfl, bc⟩
        refine hK.out _ _ ⟨ck bc hHeld.1, ck bc hHeld.2.1, ck bc hHeld.2.2.1, ck bc hHeld.2.2.2⟩ (fun hHeld => ?_)
        clear hK K
        (try simp only [List.setIfInBounds_toArray, List.set_cons_zero, List.set_cons_succ])
        replace k_c := bk bc k_c
        replace bw := bs bc bw
        (try replace r1 := (r1.below bc).more bc.size)
        clear bc
        refine wpAnyH_ready (rs := [4, 8]) (by kernel_rfl) (by simp) ?_
        refine (AllReadyH.cons rfl (fun K hK => ?_) (AllReadyH.cons rfl (fun K hK => ?_) AllReadyH.nil))
        · go_simp
          refine (palConv4 n cp1 A1 qs (q.a) (q.b) (q.c) (q.d) _ r1 h0).mono ?_
          rintro e X3 ⟨ii, x, rfl, hx0, hf0, bc⟩
          refine hK.out _ _ ⟨ck bc hHeld.1, ck bc hHeld.2.1, ck bc hHeld.2.2.1, ck bc hHeld.2.2.2⟩ (fun hHeld => ?_)
          clear hK K
          (try simp only [List.setIfInBounds_toArray, List.set_cons_zero, List.set_cons_succ])
          replace k_c := bk bc k_c
          replace bw := bs bc bw
          (try replace r1 := (r1.below bc).more bc.size)
          have Hx := Lib.hid hx0
          have Fii := Lib.hid hf0
          clear hx0 hf0
          clear bc
          refine takx (i := 5) (D := 24) (v := .tuple #[.agg #[.int .i64 (x.a % 256), .int .i64 (x.b % 256), .int .i64 (x.c % 256), .int .i64 (x.d % 256)], .bool true]) rfl rfl (by kernel_rfl) (by kernel_rfl) (by kernel_rfl) (fun _ _ _ h => h) (Or.inl ⟨by rfl, fun W hSw => by (try dsimp only at hSw); go_simp⟩) (by assumption) ?_
          (try simp only [List.setIfInBounds_toArray, List.set_cons_zero, List.set_cons_succ])
          refine takx (i := 6) (D := 30) (v := .agg #[.int .i64 (x.a % 256), .int .i64 (x.b % 256), .int .i64 (x.c % 256), .int .i64 (x.d % 256)]) rfl rfl (by kernel_rfl) (by kernel_rfl) (by kernel_rfl) (fun _ _ _ h => h) (Or.inl ⟨by rfl, fun W hSw => by (try dsimp only at hSw); go_simp⟩) (by assumption) ?_
          (try simp only [List.setIfInBounds_toArray, List.set_cons_zero, List.set_cons_succ])
          refine takx (i := 7) (D := 31) (v := .bool true) rfl rfl (by kernel_rfl) (by kernel_rfl) (by kernel_rfl) (fun _ _ _ h => h) (Or.inl ⟨by rfl, fun W hSw => by (try dsimp only at hSw); go_simp⟩) (by assumption) ?_
          (try simp only [List.setIfInBounds_toArray, List.set_cons_zero, List.set_cons_succ])
          refine wpAnyH_ready (rs := [8]) (by kernel_rfl) (by simp) ?_
          refine (AllReadyH.cons rfl (fun K hK => ?_) AllReadyH.nil)
          go_simp
          refine hK.out _ _ ⟨cka hHeld.1, cka hHeld.2.1, cka hHeld.2.2.1, cka hHeld.2.2.2⟩ (fun hHeld => ?_)
          clear hK K
          (try simp only [List.setIfInBounds_toArray, List.set_cons_zero, List.set_cons_succ])
          obtain ⟨X4, g4, eY, eg⟩ : ∃ Y g, Y = X3.alloc (.cells #[.int .i64 0, .int .i64 0, .int .i64 0, .int .i64 0] 25) ∧ g = X3.heap.size := ⟨_, _, rfl, rfl⟩
          rw [← eY, ← eg]
          rw [← eY] at hHeld
          have bc : Below X3.heap.size X3 X4 := by rw [eY]; exact (Below.refl _ _).alloc (Nat.le_refl _) _
          have k_n6 : X4.heap[g4]? = some (.cells #[.int .i64 0, .int .i64 0, .int .i64 0, .int .i64 0] 25 (0, 0)) := by rw [eY, eg]; exact heap_alloc_new X3 _
          have lo_n6 : w.heap.size ≤ g4 := by rw [eg]; exact bw.size
          have ne_c_n6 : ¬ w.heap.size = g4 := ne_new k_c eg
          replace k_c := bk bc k_c
          replace bw := bs bc bw
          (try replace r1 := (r1.below bc).more bc.size)
          clear bc eY eg
          refine wpAnyH_ready (rs := [9]) (by kernel_rfl) (by simp) ?_
          refine (AllReadyH.cons rfl (fun K hK => ?_) AllReadyH.nil)
          have qq := q4c k_n6
          go_simp
          clear qq
          refine hK.out _ _ ⟨(cks ne_c_n6 (cks ne_c_n6 (cks ne_c_n6 (cks ne_c_n6 hHeld.1)))), (cks ne_c_n6 (cks ne_c_n6 (cks ne_c_n6 (cks ne_c_n6 hHeld.2.1)))), (cks ne_c_n6 (cks ne_c_n6 (cks ne_c_n6 (cks ne_c_n6 hHeld.2.2.1)))), (cks ne_c_n6 (cks ne_c_n6 (cks ne_c_n6 (cks ne_c_n6 hHeld.2.2.2))))⟩ (fun hHeld => ?_)
          clear hK K
          (try simp only [List.setIfInBounds_toArray, List.set_cons_zero, List.set_cons_succ])
          obtain ⟨X5, eY⟩ : ∃ Y, Y = ((((X4.setCell ⟨g4, 0, none⟩ (.int .i64 (x.a % 256))).setCell ⟨g4, 1, none⟩ (.int .i64 (x.b % 256))).setCell ⟨g4, 2, none⟩ (.int .i64 (x.c % 256))).setCell ⟨g4, 3, none⟩ (.int .i64 (x.d % 256))) := ⟨_, rfl⟩
          rw [← eY] at hHeld ⊢
          replace k_c : X5.heap[w.heap.size]? = some (.cells #[.int .i64 q.a, .int .i64 q.b, .int .i64 q.c, .int .i64 q.d] 23 (0, 0)) := by rw [eY]; exact (bks ne_c_n6 (bks ne_c_n6 (bks ne_c_n6 (bks ne_c_n6 k_c))))
          replace bw : Below w.heap.size w X5 := by rw [eY]; exact (bss lo_n6 (bss lo_n6 (bss lo_n6 (bss lo_n6 bw))))
          replace k_n6 : X5.heap[g4]? = some (.cells #[.int .i64 (x.a % 256), .int .i64 (x.b % 256), .int .i64 (x.c % 256), .int .i64 (x.d % 256)] 25 (0, 0)) := by rw [eY]; exact q4s k_n6
          clear eY
          refine takx (i := 10) (D := 7) (v := .bool true) rfl rfl (by kernel_rfl) (by kernel_rfl) (by kernel_rfl) (fun _ _ _ h => h) (Or.inl ⟨by rfl, fun W hSw => by (try dsimp only at hSw); go_simp⟩) (by assumption) ?_
          (try simp only [List.setIfInBounds_toArray, List.set_cons_zero, List.set_cons_succ])
          refine wpAnyH_done (by kernel_rfl) ?_ _
          go_wp2_with fail
          go_meet
          exact ⟨_, ii, x, rfl, rfl, k_n6, k_c, Hx, Fii, bw⟩
        · go_simp
          refine hK.out _ _ ⟨cka hHeld.1, cka hHeld.2.1, cka hHeld.2.2.1, cka hHeld.2.2.2⟩ (fun hHeld => ?_)
          clear hK K
          (try simp only [List.setIfInBounds_toArray, List.set_cons_zero, List.set_cons_succ])
          obtain ⟨X6, g6, eY, eg⟩ : ∃ Y g, Y = X2.alloc (.cells #[.int .i64 0, .int .i64 0, .int .i64 0, .int .i64 0] 25) ∧ g = X2.heap.size := ⟨_, _, rfl, rfl⟩
          rw [← eY, ← eg]
          rw [← eY] at hHeld
          have bc : Below X2.heap.size X2 X6 := by rw [eY]; exact (Below.refl _ _).alloc (Nat.le_refl _) _
          have k_n6 : X6.heap[g6]? = some (.cells #[.int .i64 0, .int .i64 0, .int .i64 0, .int .i64 0] 25 (0, 0)) := by rw [eY, eg]; exact heap_alloc_new X2 _
          have lo_n6 : w.heap.size ≤ g6 := by rw [eg]; exact bw.size
          have ne_c_n6 : ¬ w.heap.size = g6 := ne_new k_c eg
          replace k_c := bk bc k_c
          replace bw := bs bc bw
          (try replace r1 := (r1.below bc).more bc.size)
          clear bc eY eg
          refine wpAnyH_ready (rs := [4]) (by kernel_rfl) (by simp) ?_
          refine (AllReadyH.cons rfl (fun K hK => ?_) AllReadyH.nil)
          go_simp
          refine (palConv4 n cp1 A1 qs (q.a) (q.b) (q.c) (q.d) _ r1 h0).mono ?_
          rintro e X7 ⟨ii, x, rfl, hx0, hf0, bc⟩
          refine hK.out _ _ ⟨ck bc hHeld.1, ck bc hHeld.2.1, ck bc hHeld.2.2.1, ck bc hHeld.2.2.2⟩ (fun hHeld => ?_)
          clear hK K
          (try simp only [List.setIfInBounds_toArray, List.set_cons_zero, List.set_cons_succ])
          replace k_c := bk bc k_c
          replace k_n6 := bk bc k_n6
          replace bw := bs bc bw
          (try replace r1 := (r1.below bc).more bc.size)
          have Hx := Lib.hid hx0
          have Fii := Lib.hid hf0
          clear hx0 hf0
          clear bc
          refine takx (i := 5) (D := 24) (v := .tuple #[.agg #[.int .i64 (x.a % 256), .int .i64 (x.b % 256), .int .i64 (x.c % 256), .int .i64 (x.d % 256)], .bool true]) rfl rfl (by kernel_rfl) (by kernel_rfl) (by kernel_rfl) (fun _ _ _ h => h) (Or.inl ⟨by rfl, fun W hSw => by (try dsimp only at hSw); go_simp⟩) (by assumption) ?_
          (try simp only [List.setIfInBounds_toArray, List.set_cons_zero, List.set_cons_succ])
          refine takx (i := 6) (D := 30) (v := .agg #[.int .i64 (x.a % 256), .int .i64 (x.b % 256), .int .i64 (x.c % 256), .int .i64 (x.d % 256)]) rfl rfl (by kernel_rfl) (by kernel_rfl) (by kernel_rfl) (fun _ _ _ h => h) (Or.inl ⟨by rfl, fun W hSw => by (try dsimp only at hSw); go_simp⟩) (by assumption) ?_
          (try simp only [List.setIfInBounds_toArray, List.set_cons_zero, List.set_cons_succ])
          refine takx (i := 7) (D := 31) (v := .bool true) rfl rfl (by kernel_rfl) (by kernel_rfl) (by kernel_rfl) (fun _ _ _ h => h) (Or.inl ⟨by rfl, fun W hSw => by (try dsimp only at hSw); go_simp⟩) (by assumption) ?_
          (try simp only [List.setIfInBounds_toArray, List.set_cons_zero, List.set_cons_succ])
          refine wpAnyH_ready (rs := [9]) (by kernel_rfl) (by simp) ?_
          refine (AllReadyH.cons rfl (fun K hK => ?_) AllReadyH.nil)
          have qq := q4c k_n6
          go_simp
          clear qq
          refine hK.out _ _ ⟨(cks ne_c_n6 (cks ne_c_n6 (cks ne_c_n6 (cks ne_c_n6 hHeld.1)))), (cks ne_c_n6 (cks ne_c_n6 (cks ne_c_n6 (cks ne_c_n6 hHeld.2.1)))), (cks ne_c_n6 (cks ne_c_n6 (cks ne_c_n6 (cks ne_c_n6 hHeld.2.2.1)))), (cks ne_c_n6 (cks ne_c_n6 (cks ne_c_n6 (cks ne_c_n6 hHeld.2.2.2))))⟩ (fun hHeld => ?_)
          clear hK K
          (try simp only [List.setIfInBounds_toArray, List.set_cons_zero, List.set_cons_succ])
          obtain ⟨X8, eY⟩ : ∃ Y, Y = ((((X7.setCell ⟨g6, 0, none⟩ (.int .i64 (x.a % 256))).setCell ⟨g6, 1, none⟩ (.int .i64 (x.b % 256))).setCell ⟨g6, 2, none⟩ (.int .i64 (x.c % 256))).setCell ⟨g6, 3, none⟩ (.int .i64 (x.d % 256))) := ⟨_, rfl⟩
          rw [← eY] at hHeld ⊢
          replace k_c : X8.heap[w.heap.size]? = some (.cells #[.int .i64 q.a, .int .i64 q.b, .int .i64 q.c, .int .i64 q.d] 23 (0, 0)) := by rw [eY]; exact (bks ne_c_n6 (bks ne_c_n6 (bks ne_c_n6 (bks ne_c_n6 k_c))))
          replace bw : Below w.heap.size w X8 := by rw [eY]; exact (bss lo_n6 (bss lo_n6 (bss lo_n6 (bss lo_n6 bw))))
          replace k_n6 : X8.heap[g6]? = some (.cells #[.int .i64 (x.a % 256), .int .i64 (x.b % 256), .int .i64 (x.c % 256), .int .i64 (x.d % 256)] 25 (0, 0)) := by rw [eY]; exact q4s k_n6
          clear eY
          refine takx (i := 10) (D := 7) (v := .bool true) rfl rfl (by kernel_rfl) (by kernel_rfl) (by kernel_rfl) (fun _ _ _ h => h) (Or.inl ⟨by rfl, fun W hSw => by (try dsimp only at hSw); go_simp⟩) (by assumption) ?_
          (try simp only [List.setIfInBounds_toArray, List.set_cons_zero, List.set_cons_succ])
          refine wpAnyH_done (by kernel_rfl) ?_ _
          go_wp2_with fail
          go_meet
          exact ⟨_, ii, x, rfl, rfl, k_n6, k_c, Hx, Fii, bw⟩
      · go_simp
        refine hK.out _ _ ⟨cka hHeld.1, cka hHeld.2.1, cka hHeld.2.2.1, cka hHeld.2.2.2⟩ (fun hHeld => ?_)
        clear hK K
        (try simp only [List.setIfInBounds_toArray, List.set_cons_zero, List.set_cons_succ])
        obtain ⟨X9, g9, eY, eg⟩ : ∃ Y g, Y = X1.alloc (.cells #[.int .i64 0, .int .i64 0, .int .i64 0, .int .i64 0] 25) ∧ g = X1.heap.size := ⟨_, _, rfl, rfl⟩
        rw [← eY, ← eg]
        rw [← eY] at hHeld
        have bc : Below X1.heap.size X1 X9 := by rw [eY]; exact (Below.refl _ _).alloc (Nat.le_refl _) _
        have k_n6 : X9.heap[g9]? = some (.cells #[.int .i64 0, .int .i64 0, .int .i64 0, .int .i64 0] 25 (0, 0)) := by rw [eY, eg]; exact heap_alloc_new X1 _
        have lo_n6 : w.heap.size ≤ g9 := by rw [eg]; exact bw.size
        have ne_c_n6 : ¬ w.heap.size = g9 := ne_new k_c eg
        replace k_c := bk bc k_c
        replace bw := bs bc bw
        (try replace r1 := (r1.below bc).more bc.size)
        clear bc eY eg
        refine wpAnyH_ready (rs := [3]) (by kernel_rfl) (by simp) ?_
        refine (AllReadyH.cons rfl (fun K hK => ?_) AllReadyH.nil)
        go_simp
        refine (toColor4 q.a q.b q.c q.d _).mono ?_
        rintro e X10 ⟨rfl, bc⟩
        refine hK.out _ _ ⟨ck bc hHeld.1, ck bc hHeld.2.1, ck bc hHeld.2.2.1, ck bc hHeld.2.2.2⟩ (fun hHeld => ?_)
        clear hK K
        (try simp only [List.setIfInBounds_toArray, List.set_cons_zero, List.set_cons_succ])
        replace k_c := bk bc k_c
        replace k_n6 := bk bc k_n6
        replace bw := bs bc bw
        (try replace r1 := (r1.below bc).more bc.size)
        clear bc
        refine wpAnyH_ready (rs := [4]) (by kernel_rfl) (by simp) ?_
        refine (AllReadyH.cons rfl (fun K hK => ?_) AllReadyH.nil)
        go_simp
        refine (palConv4 n cp1 A1 qs (q.a) (q.b) (q.c) (q.d) _ r1 h0).mono ?_
        rintro e X11 ⟨ii, x, rfl, hx0, hf0, bc⟩
        refine hK.out _ _ ⟨ck bc hHeld.1, ck bc hHeld.2.1, ck bc hHeld.2.2.1, ck bc hHeld.2.2.2⟩ (fun hHeld => ?_)
        clear hK K
        (try simp only [List.setIfInBounds_toArray, List.set_cons_zero, List.set_cons_succ])
        replace k_c := bk bc k_c
        replace k_n6 := bk bc k_n6
        replace bw := bs bc bw
        (try replace r1 := (r1.below bc).more bc.size)
        have Hx := Lib.hid hx0
        have Fii := Lib.hid hf0
        clear hx0 hf0
        clear bc
        refine takx (i := 5) (D := 24) (v := .tuple #[.agg #[.int .i64 (x.a % 256), .int .i64 (x.b % 256), .int .i64 (x.c % 256), .int .i64 (x.d % 256)], .bool true]) rfl rfl (by kernel_rfl) (by kernel_rfl) (by kernel_rfl) (fun _ _ _ h => h) (Or.inl ⟨by rfl, fun W hSw => by (try dsimp only at hSw); go_simp⟩) (by assumption) ?_
        (try simp only [List.setIfInBounds_toArray, List.set_cons_zero, List.set_cons_succ])
        refine takx (i := 6) (D := 30) (v := .agg #[.int .i64 (x.a % 256), .int .i64 (x.b % 256), .int .i64 (x.c % 256), .int .i64 (x.d % 256)]) rfl rfl (by kernel_rfl) (by kernel_rfl) (by kernel_rfl) (fun _ _ _ h => h) (Or.inl ⟨by rfl, fun W hSw => by (try dsimp only at hSw); go_simp⟩) (by assumption) ?_
        (try simp only [List.setIfInBounds_toArray, List.set_cons_zero, List.set_cons_succ])
        refine takx (i := 7) (D := 31) (v := .bool true) rfl rfl (by kernel_rfl) (by kernel_rfl) (by kernel_rfl) (fun _ _ _ h => h) (Or.inl ⟨by rfl, fun W hSw => by (try dsimp only at hSw); go_simp⟩) (by assumption) ?_
        (try simp only [List.setIfInBounds_toArray, List.set_cons_zero, List.set_cons_succ])
        refine wpAnyH_ready (rs := [9]) (by kernel_rfl) (by simp) ?_
        refine (AllReadyH.cons rfl (fun K hK => ?_) AllReadyH.nil)
        have qq := q4c k_n6
        go_simp
        clear qq
        refine hK.out _ _ ⟨(cks ne_c_n6 (cks ne_c_n6 (cks ne_c_n6 (cks ne_c_n6 hHeld.1)))), (cks ne_c_n6 (cks ne_c_n6 (cks ne_c_n6 (cks ne_c_n6 hHeld.2.1)))), (cks ne_c_n6 (cks ne_c_n6 (cks ne_c_n6 (cks ne_c_n6 hHeld.2.2.1)))), (cks ne_c_n6 (cks ne_c_n6 (cks ne_c_n6 (cks ne_c_n6 hHeld.2.2.2))))⟩ (fun hHeld => ?_)
        clear hK K
        (try simp only [List.setIfInBounds_toArray, List.set_cons_zero, List.set_cons_succ])
        obtain ⟨X12, eY⟩ : ∃ Y, Y = ((((X11.setCell ⟨g9, 0, none⟩ (.int .i64 (x.a % 256))).setCell ⟨g9, 1, none⟩ (.int .i64 (x.b % 256))).setCell ⟨g9, 2, none⟩ (.int .i64 (x.c % 256))).setCell ⟨g9, 3, none⟩ (.int .i64 (x.d % 256))) := ⟨_, rfl⟩
        rw [← eY] at hHeld ⊢
        replace k_c : X12.heap[w.heap.size]? = some (.cells #[.int .i64 q.a, .int .i64 q.b, .int .i64 q.c, .int .i64 q.d] 23 (0, 0)) := by rw [eY]; exact (bks ne_c_n6 (bks ne_c_n6 (bks ne_c_n6 (bks ne_c_n6 k_c))))
        replace bw : Below w.heap.size w X12 := by rw [eY]; exact (bss lo_n6 (bss lo_n6 (bss lo_n6 (bss lo_n6 bw))))
        replace k_n6 : X12.heap[g9]? = some (.cells #[.int .i64 (x.a % 256), .int .i64 (x.b % 256), .int .i64 (x.c % 256), .int .i64 (x.d % 256)] 25 (0, 0)) := by rw [eY]; exact q4s k_n6
        clear eY
        refine takx (i := 10) (D := 7) (v := .bool true) rfl rfl (by kernel_rfl) (by kernel_rfl) (by kernel_rfl) (fun _ _ _ h => h) (Or.inl ⟨by rfl, fun W hSw => by (try dsimp only at hSw); go_simp⟩) (by assumption) ?_
        (try simp only [List.setIfInBounds_toArray, List.set_cons_zero, List.set_cons_succ])
        refine wpAnyH_done (by kernel_rfl) ?_ _
        go_wp2_with fail
        go_meet
        exact ⟨_, ii, x, rfl, rfl, k_n6, k_c, Hx, Fii, bw⟩
    · go_simp
      refine hK.out _ _ ⟨cka hHeld.1, cka hHeld.2.1, cka hHeld.2.2.1, cka hHeld.2.2.2⟩ (fun hHeld => ?_)
      clear hK K
      (try simp only [List.setIfInBounds_toArray, List.set_cons_zero, List.set_cons_succ])
      obtain ⟨X13, g13, eY, eg⟩ : ∃ Y g, Y = X0.alloc (.cells #[.int .i64 0, .int .i64 0, .int .i64 0, .int .i64 0] 25) ∧ g = X0.heap.size := ⟨_, _, rfl, rfl⟩
      rw [← eY, ← eg]
      rw [← eY] at hHeld
      have bc : Below X0.heap.size X0 X13 := by rw [eY]; exact (Below.refl _ _).alloc (Nat.le_refl _) _
      have k_n6 : X13.heap[g13]? = some (.cells #[.int .i64 0, .int .i64 0, .int .i64 0, .int .i64 0] 25 (0, 0)) := by rw [eY, eg]; exact heap_alloc_new X0 _
      have lo_n6 : w.heap.size ≤ g13 := by rw [eg]; exact bw.size
      have ne_c_n6 : ¬ w.heap.size = g13 := ne_new k_c eg
      replace k_c := bk bc k_c
      replace bw := bs bc bw
      (try replace r1 := (r1.below bc).more bc.size)
      clear bc eY eg
      refine wpAnyH_ready (rs := [1]) (by kernel_rfl) (by simp) ?_
      refine (AllReadyH.cons rfl (fun K hK => ?_) AllReadyH.nil)
      go_simp
      refine (toColors_any n cp A qs _ ((HR.out.below bw).more bw.size)).mono ?_
      rintro e X14 ⟨A1, cp1, rfl, r1, lo1, bc⟩
      refine hK.out _ _ ⟨ck bc hHeld.1, ck bc hHeld.2.1, ck bc hHeld.2.2.1, ck bc hHeld.2.2.2⟩ (fun hHeld => ?_)
      clear hK K
      (try simp only [List.setIfInBounds_toArray, List.set_cons_zero, List.set_cons_succ])
      replace k_c := bk bc k_c
      replace k_n6 := bk bc k_n6
      replace bw := bs bc bw
      (try replace r1 := (r1.below bc).more bc.size)
      clear bc
      refine wpAnyH_ready (rs := [3]) (by kernel_rfl) (by simp) ?_
      refine (AllReadyH.cons rfl (fun K hK => ?_) AllReadyH.nil)
      go_simp
      refine (toColor4 q.a q.b q.c q.d _).mono ?_
      rintro e X15 ⟨rfl, bc⟩
      refine hK.out _ _ ⟨ck bc hHeld.1, ck bc hHeld.2.1, ck bc hHeld.2.2.1, ck bc hHeld.2.2.2⟩ (fun hHeld => ?_)
      clear hK K
      (try simp only [List.setIfInBounds_toArray, List.set_cons_zero, List.set_cons_succ])
      replace k_c := bk bc k_c
      replace k_n6 := bk bc k_n6
      replace bw := bs bc bw
      (try replace r1 := (r1.below bc).more bc.size)
      clear bc
      refine wpAnyH_ready (rs := [4]) (by kernel_rfl) (by simp) ?_
      refine (AllReadyH.cons rfl (fun K hK => ?_) AllReadyH.nil)
      go_simp
      refine (palConv4 n cp1 A1 qs (q.a) (q.b) (q.c) (q.d) _ r1 h0).mono ?_
      rintro e X16 ⟨ii, x, rfl, hx0, hf0, bc⟩
      refine hK.out _ _ ⟨ck bc hHeld.1, ck bc hHeld.2.1, ck bc hHeld.2.2.1, ck bc hHeld.2.2.2⟩ (fun hHeld => ?_)
      clear hK K
      (try simp only [List.setIfInBounds_toArray, List.set_cons_zero, List.set_cons_succ])
      replace k_c := bk bc k_c
      replace k_n6 := bk bc k_n6
      replace bw := bs bc bw
      (try replace r1 := (r1.below bc).more bc.size)
      have Hx := Lib.hid hx0
      have Fii := Lib.hid hf0
      clear hx0 hf0
      clear bc
      refine takx (i := 5) (D := 24) (v := .tuple #[.agg #[.int .i64 (x.a % 256), .int .i64 (x.b % 256), .int .i64 (x.c % 256), .int .i64 (x.d % 256)], .bool true]) rfl rfl (by kernel_rfl) (by kernel_rfl) (by kernel_rfl) (fun _ _ _ h => h) (Or.inl ⟨by rfl, fun W hSw => by (try dsimp only at hSw); go_simp⟩) (by assumption) ?_
      (try simp only [List.setIfInBounds_toArray, List.set_cons_zero, List.set_cons_succ])
      refine takx (i := 6) (D := 30) (v := .agg #[.int .i64 (x.a % 256), .int .i64 (x.b % 256), .int .i64 (x.c % 256), .int .i64 (x.d % 256)]) rfl rfl (by kernel_rfl) (by kernel_rfl) (by kernel_rfl) (fun _ _ _ h => h) (Or.inl ⟨by rfl, fun W hSw => by (try dsimp only at hSw); go_simp⟩) (by assumption) ?_
      (try simp only [List.setIfInBounds_toArray, List.set_cons_zero, List.set_cons_succ])
      refine takx (i := 7) (D := 31) (v := .bool true) rfl rfl (by kernel_rfl) (by kernel_rfl) (by kernel_rfl) (fun _ _ _ h => h) (Or.inl ⟨by rfl, fun W hSw => by (try dsimp only at hSw); go_simp⟩) (by assumption) ?_
      (try simp only [List.setIfInBounds_toArray, List.set_cons_zero, List.set_cons_succ])
      refine wpAnyH_ready (rs := [9]) (by kernel_rfl) (by simp) ?_
      refine (AllReadyH.cons rfl (fun K hK => ?_) AllReadyH.nil)
      have qq := q4c k_n6
      go_simp
      clear qq
      refine hK.out _ _ ⟨(cks ne_c_n6 (cks ne_c_n6 (cks ne_c_n6 (cks ne_c_n6 hHeld.1)))), (cks ne_c_n6 (cks ne_c_n6 (cks ne_c_n6 (cks ne_c_n6 hHeld.2.1)))), (cks ne_c_n6 (cks ne_c_n6 (cks ne_c_n6 (cks ne_c_n6 hHeld.2.2.1)))), (cks ne_c_n6 (cks ne_c_n6 (cks ne_c_n6 (cks ne_c_n6 hHeld.2.2.2))))⟩ (fun hHeld => ?_)
      clear hK K
      (try simp only [List.setIfInBounds_toArray, List.set_cons_zero, List.set_cons_succ])
      obtain ⟨X17, eY⟩ : ∃ Y, Y = ((((X16.setCell ⟨g13, 0, none⟩ (.int .i64 (x.a % 256))).setCell ⟨g13, 1, none⟩ (.int .i64 (x.b % 256))).setCell ⟨g13, 2, none⟩ (.int .i64 (x.c % 256))).setCell ⟨g13, 3, none⟩ (.int .i64 (x.d % 256))) := ⟨_, rfl⟩
      rw [← eY] at hHeld ⊢
      replace k_c : X17.heap[w.heap.size]? = some (.cells #[.int .i64 q.a, .int .i64 q.b, .int .i64 q.c, .int .i64 q.d] 23 (0, 0)) := by rw [eY]; exact (bks ne_c_n6 (bks ne_c_n6 (bks ne_c_n6 (bks ne_c_n6 k_c))))
      replace bw : Below w.heap.size w X17 := by rw [eY]; exact (bss lo_n6 (bss lo_n6 (bss lo_n6 (bss lo_n6 bw))))
      replace k_n6 : X17.heap[g13]? = some (.cells #[.int .i64 (x.a % 256), .int .i64 (x.b % 256), .int .i64 (x.c % 256), .int .i64 (x.d % 256)] 25 (0, 0)) := by rw [eY]; exact q4s k_n6
      clear eY
      refine takx (i := 10) (D := 7) (v := .bool true) rfl rfl (by kernel_rfl) (by kernel_rfl) (by kernel_rfl) (fun _ _ _ h => h) (Or.inl ⟨by rfl, fun W hSw => by (try dsimp only at hSw); go_simp⟩) (by assumption) ?_
      (try simp only [List.setIfInBounds_toArray, List.set_cons_zero, List.set_cons_succ])
      refine wpAnyH_done (by kernel_rfl) ?_ _
      go_wp2_with fail
      go_meet
      exact ⟨_, ii, x, rfl, rfl, k_n6, k_c, Hx, Fii, bw⟩
  case rest =>
    clear k_c bw
    obtain ⟨g, ii, x, rfl, rfl, k_x, k_c, Hx, Fii, BW⟩ := hcut
    have bw := BW.out
    go_upto_region 5 with fail
    go_cut [8, 9] (fun sx so wx => ∃ (g2 : Nat), sx = .pointer (some ⟨g2, 0, none⟩) ∧ so = .bool true ∧ wx.heap[g2]? = some (.cells #[.int .i64 (x.a % 256), .int .i64 (x.b % 256), .int .i64 (x.c % 256), .int .i64 (x.d % 256)] 25 (0, 0)) ∧ wx.heap[w.heap.size]? = some (.cells #[.int .i64 q.a, .int .i64 q.b, .int .i64 q.c, .int .i64 q.d] 23 (0, 0)) ∧ wx.heap[g]? = some (.cells #[.int .i64 (x.a % 256), .int .i64 (x.b % 256), .int .i64 (x.c % 256), .int .i64 (x.d % 256)] 25 (0, 0)) ∧ Hid (Below w.heap.size w wx))
    case first =>
      refine wp_region_held_drew (S := fun w' => w'.cell? ⟨w.heap.size, 0, none⟩ = some (.int .i64 q.a) ∧ w'.cell? ⟨w.heap.size, 1, none⟩ = some (.int .i64 q.b) ∧ w'.cell? ⟨w.heap.size, 2, none⟩ = some (.int .i64 q.c) ∧ w'.cell? ⟨w.heap.size, 3, none⟩ = some (.int .i64 q.d)) (by kernel_rfl) ⟨(q4c k_c).1.1, (q4c k_c).1.2.1, (q4c k_c).1.2.2.1, (q4c k_c).1.2.2.2⟩ ?_
      intro hHeld
      obtain ⟨X0, eX, bc⟩ : ∃ X, X = wc.drew ∧ Below wc.heap.size wc X := ⟨_, rfl, (Below.refl _ _).drew⟩
      rw [← eX] at hHeld ⊢
      replace k_c := bk bc k_c
      replace k_x := bk bc k_x
      replace bw := bs bc bw
      (try replace r1 := (r1.below bc).more bc.size)
      clear eX bc
      refine takx (i := 0) (D := 33) (v := .slice A n cp) rfl rfl (by kernel_rfl) (by kernel_rfl) (by kernel_rfl) (fun _ _ _ h => h) (Or.inl ⟨by rfl, fun W hSw => by (try dsimp only at hSw); go_simp⟩) (by assumption) ?_
      (try simp only [List.setIfInBounds_toArray, List.set_cons_zero, List.set_cons_succ])
      refine takx (i := 2) (D := 35) (v := .agg #[.int .i64 q.a, .int .i64 q.b, .int .i64 q.c, .int .i64 q.d]) rfl rfl (by kernel_rfl) (by kernel_rfl) (by kernel_rfl) (fun _ _ _ h => h) (Or.inl ⟨by rfl, fun W hSw => by (try dsimp only at hSw); go_simp⟩) (by assumption) ?_
      (try simp only [List.setIfInBounds_toArray, List.set_cons_zero, List.set_cons_succ])
      refine wpAnyH_ready (rs := [1, 8]) (by kernel_rfl) (by simp) ?_
      refine (AllReadyH.cons rfl (fun K hK => ?_) (AllReadyH.cons rfl (fun K hK => ?_) AllReadyH.nil))
      · go_simp
        refine (toColors_any n cp A qs _ ((HR.out.below bw).more bw.size)).mono ?_
        rintro e X1 ⟨A1, cp1, rfl, r1, lo1, bc⟩
        refine hK.out _ _ ⟨ck bc hHeld.1, ck bc hHeld.2.1, ck bc hHeld.2.2.1, ck bc hHeld.2.2.2⟩ (fun hHeld => ?_)
        clear hK K
        (try simp only [List.setIfInBounds_toArray, List.set_cons_zero, List.set_cons_succ])
        replace k_c := bk bc k_c
        replace k_x := bk bc k_x
        replace bw := bs bc bw
        (try replace r1 := (r1.below bc).more bc.size)
        clear bc
        refine wpAnyH_ready (rs := [3, 8]) (by kernel_rfl) (by simp) ?_
        refine (AllReadyH.cons rfl (fun K hK => ?_) (AllReadyH.cons rfl (fun K hK => ?_) AllReadyH.nil))
        · go_simp
          refine (toColor4 q.a q.b q.c q.d _).mono ?_
          rintro e X2 ⟨rfl, bc⟩
          refine hK.out _ _ ⟨ck bc hHeld.1, ck bc hHeld.2.1, ck bc hHeld.2.2.1, ck bc hHeld.2.2.2⟩ (fun hHeld => ?_)
          clear hK K
          (try simp only [List.setIfInBounds_toArray, List.set_cons_zero, List.set_cons_succ])
          replace k_c := bk bc k_c
          replace k_x := bk bc k_x
          replace bw := bs bc bw
          (try replace r1 := (r1.below bc).more bc.size)
          clear bc
          refine wpAnyH_ready (rs := [4, 8]) (by kernel_rfl) (by simp) ?_
          refine (AllReadyH.cons rfl (fun K hK => ?_) (AllReadyH.cons rfl (fun K hK => ?_) AllReadyH.nil))
          · go_simp
            refine (sPalConv4 n cp1 A1 qs q HQ.out _ r1 h0).mono ?_
            rintro e X3 ⟨j, y, rfl, hx0, hf0, bc⟩
            refine hK.out _ _ ⟨ck bc hHeld.1, ck bc hHeld.2.1, ck bc hHeld.2.2.1, ck bc hHeld.2.2.2⟩ (fun hHeld => ?_)
            clear hK K
            (try simp only [List.setIfInBounds_toArray, List.set_cons_zero, List.set_cons_succ])
            replace k_c := bk bc k_c
            replace k_x := bk bc k_x
            replace bw := bs bc bw
            (try replace r1 := (r1.below bc).more bc.size)
            have Hy := Lib.hid hx0
            have Nj := Lib.hid hf0
            clear hx0 hf0
            clear bc
            refine takx (i := 5) (D := 32) (v := .tuple #[.agg #[.int .i64 (y.a % 256), .int .i64 (y.b % 256), .int .i64 (y.c % 256), .int .i64 (y.d % 256)], .bool true]) rfl rfl (by kernel_rfl) (by kernel_rfl) (by kernel_rfl) (fun _ _ _ h => h) (Or.inl ⟨by rfl, fun W hSw => by (try dsimp only at hSw); go_simp⟩) (by assumption) ?_
            (try simp only [List.setIfInBounds_toArray, List.set_cons_zero, List.set_cons_succ])
            refine takx (i := 6) (D := 38) (v := .agg #[.int .i64 (y.a % 256), .int .i64 (y.b % 256), .int .i64 (y.c % 256), .int .i64 (y.d % 256)]) rfl rfl (by kernel_rfl) (by kernel_rfl) (by kernel_rfl) (fun _ _ _ h => h) (Or.inl ⟨by rfl, fun W hSw => by (try dsimp only at hSw); go_simp⟩) (by assumption) ?_
            (try simp only [List.setIfInBounds_toArray, List.set_cons_zero, List.set_cons_succ])
            refine takx (i := 7) (D := 39) (v := .bool true) rfl rfl (by kernel_rfl) (by kernel_rfl) (by kernel_rfl) (fun _ _ _ h => h) (Or.inl ⟨by rfl, fun W hSw => by (try dsimp only at hSw); go_simp⟩) (by assumption) ?_
            (try simp only [List.setIfInBounds_toArray, List.set_cons_zero, List.set_cons_succ])
            refine wpAnyH_ready (rs := [8]) (by kernel_rfl) (by simp) ?_
            refine (AllReadyH.cons rfl (fun K hK => ?_) AllReadyH.nil)
            go_simp
            refine hK.out _ _ ⟨cka hHeld.1, cka hHeld.2.1, cka hHeld.2.2.1, cka hHeld.2.2.2⟩ (fun hHeld => ?_)
            clear hK K
            (try simp only [List.setIfInBounds_toArray, List.set_cons_zero, List.set_cons_succ])
            obtain ⟨X4, g4, eY, eg⟩ : ∃ Y g, Y = X3.alloc (.cells #[.int .i64 0, .int .i64 0, .int .i64 0, .int .i64 0] 25) ∧ g = X3.heap.size := ⟨_, _, rfl, rfl⟩
            rw [← eY, ← eg]
            rw [← eY] at hHeld
            have bc : Below X3.heap.size X3 X4 := by rw [eY]; exact (Below.refl _ _).alloc (Nat.le_refl _) _
            have k_n8 : X4.heap[g4]? = some (.cells #[.int .i64 0, .int .i64 0, .int .i64 0, .int .i64 0] 25 (0, 0)) := by rw [eY, eg]; exact heap_alloc_new X3 _
            have lo_n8 : w.heap.size ≤ g4 := by rw [eg]; exact bw.size
            have ne_c_n8 : ¬ w.heap.size = g4 := ne_new k_c eg
            have ne_x_n8 : ¬ g = g4 := ne_new k_x eg
            replace k_c := bk bc k_c
            replace k_x := bk bc k_x
            replace bw := bs bc bw
            (try replace r1 := (r1.below bc).more bc.size)
            clear bc eY eg
            refine wpAnyH_ready (rs := [9]) (by kernel_rfl) (by simp) ?_
            refine (AllReadyH.cons rfl (fun K hK => ?_) AllReadyH.nil)
            have qq := q4c k_n8
            go_simp
            clear qq
            refine hK.out _ _ ⟨(cks ne_c_n8 (cks ne_c_n8 (cks ne_c_n8 (cks ne_c_n8 hHeld.1)))), (cks ne_c_n8 (cks ne_c_n8 (cks ne_c_n8 (cks ne_c_n8 hHeld.2.1)))), (cks ne_c_n8 (cks ne_c_n8 (cks ne_c_n8 (cks ne_c_n8 hHeld.2.2.1)))), (cks ne_c_n8 (cks ne_c_n8 (cks ne_c_n8 (cks ne_c_n8 hHeld.2.2.2))))⟩ (fun hHeld => ?_)
            clear hK K
            (try simp only [List.setIfInBounds_toArray, List.set_cons_zero, List.set_cons_succ])
            obtain ⟨X5, eY⟩ : ∃ Y, Y = ((((X4.setCell ⟨g4, 0, none⟩ (.int .i64 (y.a % 256))).setCell ⟨g4, 1, none⟩ (.int .i64 (y.b % 256))).setCell ⟨g4, 2, none⟩ (.int .i64 (y.c % 256))).setCell ⟨g4, 3, none⟩ (.int .i64 (y.d % 256))) := ⟨_, rfl⟩
            rw [← eY] at hHeld ⊢
            replace k_c : X5.heap[w.heap.size]? = some (.cells #[.int .i64 q.a, .int .i64 q.b, .int .i64 q.c, .int .i64 q.d] 23 (0, 0)) := by rw [eY]; exact (bks ne_c_n8 (bks ne_c_n8 (bks ne_c_n8 (bks ne_c_n8 k_c))))
            replace k_x : X5.heap[g]? = some (.cells #[.int .i64 (x.a % 256), .int .i64 (x.b % 256), .int .i64 (x.c % 256), .int .i64 (x.d % 256)] 25 (0, 0)) := by rw [eY]; exact (bks ne_x_n8 (bks ne_x_n8 (bks ne_x_n8 (bks ne_x_n8 k_x))))
            replace bw : Below w.heap.size w X5 := by rw [eY]; exact (bss lo_n8 (bss lo_n8 (bss lo_n8 (bss lo_n8 bw))))
            replace k_n8 : X5.heap[g4]? = some (.cells #[.int .i64 (y.a % 256), .int .i64 (y.b % 256), .int .i64 (y.c % 256), .int .i64 (y.d % 256)] 25 (0, 0)) := by rw [eY]; exact q4s k_n8
            clear eY
            refine takx (i := 10) (D := 9) (v := .bool true) rfl rfl (by kernel_rfl) (by kernel_rfl) (by kernel_rfl) (fun _ _ _ h => h) (Or.inl ⟨by rfl, fun W hSw => by (try dsimp only at hSw); go_simp⟩) (by assumption) ?_
            (try simp only [List.setIfInBounds_toArray, List.set_cons_zero, List.set_cons_succ])
            refine wpAnyH_done (by kernel_rfl) ?_ _
            go_wp2_with fail
            go_meet
            have exy := Near.same (near_of_first H5.out HO.out Fii.out) Nj.out Hx.out Hy.out
            subst exy
            exact ⟨_, rfl, rfl, k_n8, k_c, k_x, bw⟩
          · go_simp
            refine hK.out _ _ ⟨cka hHeld.1, cka hHeld.2.1, cka hHeld.2.2.1, cka hHeld.2.2.2⟩ (fun hHeld => ?_)
            clear hK K
            (try simp only [List.setIfInBounds_toArray, List.set_cons_zero, List.set_cons_succ])
            obtain ⟨X6, g6, eY, eg⟩ : ∃ Y g, Y = X2.alloc (.cells #[.int .i64 0, .int .i64 0, .int .i64 0, .int .i64 0] 25) ∧ g = X2.heap.size := ⟨_, _, rfl, rfl⟩
            rw [← eY, ← eg]
            rw [← eY] at hHeld
            have bc : Below X2.heap.size X2 X6 := by rw [eY]; exact (Below.refl _ _).alloc (Nat.le_refl _) _
            have k_n8 : X6.heap[g6]? = some (.cells #[.int .i64 0, .int .i64 0, .int .i64 0, .int .i64 0] 25 (0, 0)) := by rw [eY, eg]; exact heap_alloc_new X2 _
            have lo_n8 : w.heap.size ≤ g6 := by rw [eg]; exact bw.size
            have ne_c_n8 : ¬ w.heap.size = g6 := ne_new k_c eg
            have ne_x_n8 : ¬ g = g6 := ne_new k_x eg
            replace k_c := bk bc k_c
            replace k_x := bk bc k_x
            replace bw := bs bc bw
            (try replace r1 := (r1.below bc).more bc.size)
            clear bc eY eg
            refine wpAnyH_ready (rs := [4]) (by kernel_rfl) (by simp) ?_
            refine (AllReadyH.cons rfl (fun K hK => ?_) AllReadyH.nil)
            go_simp
            refine (sPalConv4 n cp1 A1 qs q HQ.out _ r1 h0).mono ?_
            rintro e X7 ⟨j, y, rfl, hx0, hf0, bc⟩
            refine hK.out _ _ ⟨ck bc hHeld.1, ck bc hHeld.2.1, ck bc hHeld.2.2.1, ck bc hHeld.2.2.2⟩ (fun hHeld => ?_)
            clear hK K
            (try simp only [List.setIfInBounds_toArray, List.set_cons_zero, List.set_cons_succ])
            replace k_c := bk bc k_c
            replace k_x := bk bc k_x
            replace k_n8 := bk bc k_n8
            replace bw := bs bc bw
            (try replace r1 := (r1.below bc).more bc.size)
            have Hy := Lib.hid hx0
            have Nj := Lib.hid hf0
            clear hx0 hf0
            clear bc
            refine takx (i := 5) (D := 32) (v := .tuple #[.agg #[.int .i64 (y.a % 256), .int .i64 (y.b % 256), .int .i64 (y.c % 256), .int .i64 (y.d % 256)], .bool true]) rfl rfl (by kernel_rfl) (by kernel_rfl) (by kernel_rfl) (fun _ _ _ h => h) (Or.inl ⟨by rfl, fun W hSw => by (try dsimp only at hSw); go_simp⟩) (by assumption) ?_
            (try simp only [List.setIfInBounds_toArray, List.set_cons_zero, List.set_cons_succ])
            refine takx (i := 6) (D := 38) (v := .agg #[.int .i64 (y.a % 256), .int .i64 (y.b % 256), .int .i64 (y.c % 256), .int .i64 (y.d % 256)]) rfl rfl (by kernel_rfl) (by kernel_rfl) (by kernel_rfl) (fun _ _ _ h => h) (Or.inl ⟨by rfl, fun W hSw => by (try dsimp only at hSw); go_simp⟩) (by assumption) ?_
            (try simp only [List.setIfInBounds_toArray, List.set_cons_zero, List.set_cons_succ])
            refine takx (i := 7) (D := 39) (v := .bool true) rfl rfl (by kernel_rfl) (by kernel_rfl) (by kernel_rfl) (fun _ _ _ h => h) (Or.inl ⟨by rfl, fun W hSw => by (try dsimp only at hSw); go_simp⟩) (by assumption) ?_
            (try simp only [List.setIfInBounds_toArray, List.set_cons_zero, List.set_cons_succ])
            refine wpAnyH_ready (rs := [9]) (by kernel_rfl) (by simp) ?_
            refine (AllReadyH.cons rfl (fun K hK => ?_) AllReadyH.nil)
            have qq := q4c k_n8
            go_simp
            clear qq
            refine hK.out _ _ ⟨(cks ne_c_n8 (cks ne_c_n8 (cks ne_c_n8 (cks ne_c_n8 hHeld.1)))), (cks ne_c_n8 (cks ne_c_n8 (cks ne_c_n8 (cks ne_c_n8 hHeld.2.1)))), (cks ne_c_n8 (cks ne_c_n8 (cks ne_c_n8 (cks ne_c_n8 hHeld.2.2.1)))), (cks ne_c_n8 (cks ne_c_n8 (cks ne_c_n8 (cks ne_c_n8 hHeld.2.2.2))))⟩ (fun hHeld => ?_)
            clear hK K
            (try simp only [List.setIfInBounds_toArray, List.set_cons_zero, List.set_cons_succ])
            obtain ⟨X8, eY⟩ : ∃ Y, Y = ((((X7.setCell ⟨g6, 0, none⟩ (.int .i64 (y.a % 256))).setCell ⟨g6, 1, none⟩ (.int .i64 (y.b % 256))).setCell ⟨g6, 2, none⟩ (.int .i64 (y.c % 256))).setCell ⟨g6, 3, none⟩ (.int .i64 (y.d % 256))) := ⟨_, rfl⟩
            rw [← eY] at hHeld ⊢
            replace k_c : X8.heap[w.heap.size]? = some (.cells #[.int .i64 q.a, .int .i64 q.b, .int .i64 q.c, .int .i64 q.d] 23 (0, 0)) := by rw [eY]; exact (bks ne_c_n8 (bks ne_c_n8 (bks ne_c_n8 (bks ne_c_n8 k_c))))
            replace k_x : X8.heap[g]? = some (.cells #[.int .i64 (x.a % 256), .int .i64 (x.b % 256), .int .i64 (x.c % 256), .int .i64 (x.d % 256)] 25 (0, 0)) := by rw [eY]; exact (bks ne_x_n8 (bks ne_x_n8 (bks ne_x_n8 (bks ne_x_n8 k_x))))
            replace bw : Below w.heap.size w X8 := by rw [eY]; exact (bss lo_n8 (bss lo_n8 (bss lo_n8 (bss lo_n8 bw))))
            replace k_n8 : X8.heap[g6]? = some (.cells #[.int .i64 (y.a % 256), .int .i64 (y.b % 256), .int .i64 (y.c % 256), .int .i64 (y.d % 256)] 25 (0, 0)) := by rw [eY]; exact q4s k_n8
            clear eY
            refine takx (i := 10) (D := 9) (v := .bool true) rfl rfl (by kernel_rfl) (by kernel_rfl) (by kernel_rfl) (fun _ _ _ h => h) (Or.inl ⟨by rfl, fun W hSw => by (try dsimp only at hSw); go_simp⟩) (by assumption) ?_
            (try simp only [List.setIfInBounds_toArray, List.set_cons_zero, List.set_cons_succ])
            refine wpAnyH_done (by kernel_rfl) ?_ _
            go_wp2_with fail
            go_meet
            have exy := Near.same (near_of_first H5.out HO.out Fii.out) Nj.out Hx.out Hy.out
            subst exy
            exact ⟨_, rfl, rfl, k_n8, k_c, k_x, bw⟩
        · go_simp
          refine hK.out _ _ ⟨cka hHeld.1, cka hHeld.2.1, cka hHeld.2.2.1, cka hHeld.2.2.2⟩ (fun hHeld => ?_)
          clear hK K
          (try simp only [List.setIfInBounds_toArray, List.set_cons_zero, List.set_cons_succ])
          obtain ⟨X9, g9, eY, eg⟩ : ∃ Y g, Y = X1.alloc (.cells #[.int .i64 0, .int .i64 0, .int .i64 0, .int .i64 0] 25) ∧ g = X1.heap.size := ⟨_, _, rfl, rfl⟩
          rw [← eY, ← eg]
          rw [← eY] at hHeld
          have bc : Below X1.heap.size X1 X9 := by rw [eY]; exact (Below.refl _ _).alloc (Nat.le_refl _) _
          have k_n8 : X9.heap[g9]? = some (.cells #[.int .i64 0, .int .i64 0, .int .i64 0, .int .i64 0] 25 (0, 0)) := by rw [eY, eg]; exact heap_alloc_new X1 _
          have lo_n8 : w.heap.size ≤ g9 := by rw [eg]; exact bw.size
          have ne_c_n8 : ¬ w.heap.size = g9 := ne_new k_c eg
          have ne_x_n8 : ¬ g = g9 := ne_new k_x eg
          replace k_c := bk bc k_c
          replace k_x := bk bc k_x
          replace bw := bs bc bw
          (try replace r1 := (r1.below bc).more bc.size)
          clear bc eY eg
          refine wpAnyH_ready (rs := [3]) (by kernel_rfl) (by simp) ?_
          refine (AllReadyH.cons rfl (fun K hK => ?_) AllReadyH.nil)
          go_simp
          refine (toColor4 q.a q.b q.c q.d _).mono ?_
          rintro e X10 ⟨rfl, bc⟩
          refine hK.out _ _ ⟨ck bc hHeld.1, ck bc hHeld.2.1, ck bc hHeld.2.2.1, ck bc hHeld.2.2.2⟩ (fun hHeld => ?_)
          clear hK K
          (try simp only [List.setIfInBounds_toArray, List.set_cons_zero, List.set_cons_succ])
          replace k_c := bk bc k_c
          replace k_x := bk bc k_x
          replace k_n8 := bk bc k_n8
          replace bw := bs bc bw
          (try replace r1 := (r1.below bc).more bc.size)
          clear bc
          refine wpAnyH_ready (rs := [4]) (by kernel_rfl) (by simp) ?_
          refine (AllReadyH.cons rfl (fun K hK => ?_) AllReadyH.nil)
          go_simp
          refine (sPalConv4 n cp1 A1 qs q HQ.out _ r1 h0).mono ?_
          rintro e X11 ⟨j, y, rfl, hx0, hf0, bc⟩
          refine hK.out _ _ ⟨ck bc hHeld.1, ck bc hHeld.2.1, ck bc hHeld.2.2.1, ck bc hHeld.2.2.2⟩ (fun hHeld => ?_)
          clear hK K
          (try simp only [List.setIfInBounds_toArray, List.set_cons_zero, List.set_cons_succ])
          replace k_c := bk bc k_c
          replace k_x := bk bc k_x
          replace k_n8 := bk bc k_n8
          replace bw := bs bc bw
          (try replace r1 := (r1.below bc).more bc.size)
          have Hy := Lib.hid hx0
          have Nj := Lib.hid hf0
          clear hx0 hf0
          clear bc
          refine takx (i := 5) (D := 32) (v := .tuple #[.agg #[.int .i64 (y.a % 256), .int .i64 (y.b % 256), .int .i64 (y.c % 256), .int .i64 (y.d % 256)], .bool true]) rfl rfl (by kernel_rfl) (by kernel_rfl) (by kernel_rfl) (fun _ _ _ h => h) (Or.inl ⟨by rfl, fun W hSw => by (try dsimp only at hSw); go_simp⟩) (by assumption) ?_
          (try simp only [List.setIfInBounds_toArray, List.set_cons_zero, List.set_cons_succ])
          refine takx (i := 6) (D := 38) (v := .agg #[.int .i64 (y.a % 256), .int .i64 (y.b % 256), .int .i64 (y.c % 256), .int .i64 (y.d % 256)]) rfl rfl (by kernel_rfl) (by kernel_rfl) (by kernel_rfl) (fun _ _ _ h => h) (Or.inl ⟨by rfl, fun W hSw => by (try dsimp only at hSw); go_simp⟩) (by assumption) ?_
          (try simp only [List.setIfInBounds_toArray, List.set_cons_zero, List.set_cons_succ])
          refine takx (i := 7) (D := 39) (v := .bool true) rfl rfl (by kernel_rfl) (by kernel_rfl) (by kernel_rfl) (fun _ _ _ h => h) (Or.inl ⟨by rfl, fun W hSw => by (try dsimp only at hSw); go_simp⟩) (by assumption) ?_
          (try simp only [List.setIfInBounds_toArray, List.set_cons_zero, List.set_cons_succ])
          refine wpAnyH_ready (rs := [9]) (by kernel_rfl) (by simp) ?_
          refine (AllReadyH.cons rfl (fun K hK => ?_) AllReadyH.nil)
          have qq := q4c k_n8
          go_simp
          clear qq
          refine hK.out _ _ ⟨(cks ne_c_n8 (cks ne_c_n8 (cks ne_c_n8 (cks ne_c_n8 hHeld.1)))), (cks ne_c_n8 (cks ne_c_n8 (cks ne_c_n8 (cks ne_c_n8 hHeld.2.1)))), (cks ne_c_n8 (cks ne_c_n8 (cks ne_c_n8 (cks ne_c_n8 hHeld.2.2.1)))), (cks ne_c_n8 (cks ne_c_n8 (cks ne_c_n8 (cks ne_c_n8 hHeld.2.2.2))))⟩ (fun hHeld => ?_)
          clear hK K
          (try simp only [List.setIfInBounds_toArray, List.set_cons_zero, List.set_cons_succ])
          obtain ⟨X12, eY⟩ : ∃ Y, Y = ((((X11.setCell ⟨g9, 0, none⟩ (.int .i64 (y.a % 256))).setCell ⟨g9, 1, none⟩ (.int .i64 (y.b % 256))).setCell ⟨g9, 2, none⟩ (.int .i64 (y.c % 256))).setCell ⟨g9, 3, none⟩ (.int .i64 (y.d % 256))) := ⟨_, rfl⟩
          rw [← eY] at hHeld ⊢
          replace k_c : X12.heap[w.heap.size]? = some (.cells #[.int .i64 q.a, .int .i64 q.b, .int .i64 q.c, .int .i64 q.d] 23 (0, 0)) := by rw [eY]; exact (bks ne_c_n8 (bks ne_c_n8 (bks ne_c_n8 (bks ne_c_n8 k_c))))
          replace k_x : X12.heap[g]? = some (.cells #[.int .i64 (x.a % 256), .int .i64 (x.b % 256), .int .i64 (x.c % 256), .int .i64 (x.d % 256)] 25 (0, 0)) := by rw [eY]; exact (bks ne_x_n8 (bks ne_x_n8 (bks ne_x_n8 (bks ne_x_n8 k_x))))
          replace bw : Below w.heap.size w X12 := by rw [eY]; exact (bss lo_n8 (bss lo_n8 (bss lo_n8 (bss lo_n8 bw))))
          replace k_n8 : X12.heap[g9]? = some (.cells #[.int .i64 (y.a % 256), .int .i64 (y.b % 256), .int .i64 (y.c % 256), .int .i64 (y.d % 256)] 25 (0, 0)) := by rw [eY]; exact q4s k_n8
          clear eY
          refine takx (i := 10) (D := 9) (v := .bool true) rfl rfl (by kernel_rfl) (by kernel_rfl) (by kernel_rfl) (fun _ _ _ h => h) (Or.inl ⟨by rfl, fun W hSw => by (try dsimp only at hSw); go_simp⟩) (by assumption) ?_
          (try simp only [List.setIfInBounds_toArray, List.set_cons_zero, List.set_cons_succ])
          refine wpAnyH_done (by kernel_rfl) ?_ _
          go_wp2_with fail
          go_meet
          have exy := Near.same (near_of_first H5.out HO.out Fii.out) Nj.out Hx.out Hy.out
          subst exy
          exact ⟨_, rfl, rfl, k_n8, k_c, k_x, bw⟩
      · go_simp
        refine hK.out _ _ ⟨cka hHeld.1, cka hHeld.2.1, cka hHeld.2.2.1, cka hHeld.2.2.2⟩ (fun hHeld => ?_)
        clear hK K
        (try simp only [List.setIfInBounds_toArray, List.set_cons_zero, List.set_cons_succ])
        obtain ⟨X13, g13, eY, eg⟩ : ∃ Y g, Y = X0.alloc (.cells #[.int .i64 0, .int .i64 0, .int .i64 0, .int .i64 0] 25) ∧ g = X0.heap.size := ⟨_, _, rfl, rfl⟩
        rw [← eY, ← eg]
        rw [← eY] at hHeld
        have bc : Below X0.heap.size X0 X13 := by rw [eY]; exact (Below.refl _ _).alloc (Nat.le_refl _) _
        have k_n8 : X13.heap[g13]? = some (.cells #[.int .i64 0, .int .i64 0, .int .i64 0, .int .i64 0] 25 (0, 0)) := by rw [eY, eg]; exact heap_alloc_new X0 _
        have lo_n8 : w.heap.size ≤ g13 := by rw [eg]; exact bw.size
        have ne_c_n8 : ¬ w.heap.size = g13 := ne_new k_c eg
        have ne_x_n8 : ¬ g = g13 := ne_new k_x eg
        replace k_c := bk bc k_c
        replace k_x := bk bc k_x
        replace bw := bs bc bw
        (try replace r1 := (r1.below bc).more bc.size)
        clear bc eY eg
        refine wpAnyH_ready (rs := [1]) (by kernel_rfl) (by simp) ?_
        refine (AllReadyH.cons rfl (fun K hK => ?_) AllReadyH.nil)
        go_simp
        refine (toColors_any n cp A qs _ ((HR.out.below bw).more bw.size)).mono ?_
        rintro e X14 ⟨A1, cp1, rfl, r1, lo1, bc⟩
        refine hK.out _ _ ⟨ck bc hHeld.1, ck bc hHeld.2.1, ck bc hHeld.2.2.1, ck bc hHeld.2.2.2⟩ (fun hHeld => ?_)
        clear hK K
        (try simp only [List.setIfInBounds_toArray, List.set_cons_zero, List.set_cons_succ])
        replace k_c := bk bc k_c
        replace k_x := bk bc k_x
        replace k_n8 := bk bc k_n8
        replace bw := bs bc bw
        (try replace r1 := (r1.below bc).more bc.size)
        clear bc
        refine wpAnyH_ready (rs := [3]) (by kernel_rfl) (by simp) ?_
        refine (AllReadyH.cons rfl (fun K hK => ?_) AllReadyH.nil)
        go_simp
        refine (toColor4 q.a q.b q.c q.d _).mono ?_
        rintro e X15 ⟨rfl, bc⟩
        refine hK.out _ _ ⟨ck bc hHeld.1, ck bc hHeld.2.1, ck bc hHeld.2.2.1, ck bc hHeld.2.2.2⟩ (fun hHeld => ?_)
        clear hK K
        (try simp only [List.setIfInBounds_toArray, List.set_cons_zero, List.set_cons_succ])
        replace k_c := bk bc k_c
        replace k_x := bk bc k_x
        replace k_n8 := bk bc k_n8
        replace bw := bs bc bw
        (try replace r1 := (r1.below bc).more bc.size)
        clear bc
        refine wpAnyH_ready (rs := [4]) (by kernel_rfl) (by simp) ?_
        refine (AllReadyH.cons rfl (fun K hK => ?_) AllReadyH.nil)
        go_simp
        refine (sPalConv4 n cp1 A1 qs q HQ.out _ r1 h0).mono ?_
        rintro e X16 ⟨j, y, rfl, hx0, hf0, bc⟩
        refine hK.out _ _ ⟨ck bc hHeld.1, ck bc hHeld.2.1, ck bc hHeld.2.2.1, ck bc hHeld.2.2.2⟩ (fun hHeld => ?_)
        clear hK K
        (try simp only [List.setIfInBounds_toArray, List.set_cons_zero, List.set_cons_succ])
        replace k_c := bk bc k_c
        replace k_x := bk bc k_x
        replace k_n8 := bk bc k_n8
        replace bw := bs bc bw
        (try replace r1 := (r1.below bc).more bc.size)
        have Hy := Lib.hid hx0
        have Nj := Lib.hid hf0
        clear hx0 hf0
        clear bc
        refine takx (i := 5) (D := 32) (v := .tuple #[.agg #[.int .i64 (y.a % 256), .int .i64 (y.b % 256), .int .i64 (y.c % 256), .int .i64 (y.d % 256)], .bool true]) rfl rfl (by kernel_rfl) (by kernel_rfl) (by kernel_rfl) (fun _ _ _ h => h) (Or.inl ⟨by rfl, fun W hSw => by (try dsimp only at hSw); go_simp⟩) (by assumption) ?_
        (try simp only [List.setIfInBounds_toArray, List.set_cons_zero, List.set_cons_succ])
        refine takx (i := 6) (D := 38) (v := .agg #[.int .i64 (y.a % 256), .int .i64 (y.b % 256), .int .i64 (y.c % 256), .int .i64 (y.d % 256)]) rfl rfl (by kernel_rfl) (by kernel_rfl) (by kernel_rfl) (fun _ _ _ h => h) (Or.inl ⟨by rfl, fun W hSw => by (try dsimp only at hSw); go_simp⟩) (by assumption) ?_
        (try simp only [List.setIfInBounds_toArray, List.set_cons_zero, List.set_cons_succ])
        refine takx (i := 7) (D := 39) (v := .bool true) rfl rfl (by kernel_rfl) (by kernel_rfl) (by kernel_rfl) (fun _ _ _ h => h) (Or.inl ⟨by rfl, fun W hSw => by (try dsimp only at hSw); go_simp⟩) (by assumption) ?_
        (try simp only [List.setIfInBounds_toArray, List.set_cons_zero, List.set_cons_succ])
        refine wpAnyH_ready (rs := [9]) (by kernel_rfl) (by simp) ?_
        refine (AllReadyH.cons rfl (fun K hK => ?_) AllReadyH.nil)
        have qq := q4c k_n8
        go_simp
        clear qq
        refine hK.out _ _ ⟨(cks ne_c_n8 (cks ne_c_n8 (cks ne_c_n8 (cks ne_c_n8 hHeld.1)))), (cks ne_c_n8 (cks ne_c_n8 (cks ne_c_n8 (cks ne_c_n8 hHeld.2.1)))), (cks ne_c_n8 (cks ne_c_n8 (cks ne_c_n8 (cks ne_c_n8 hHeld.2.2.1)))), (cks ne_c_n8 (cks ne_c_n8 (cks ne_c_n8 (cks ne_c_n8 hHeld.2.2.2))))⟩ (fun hHeld => ?_)
        clear hK K
        (try simp only [List.setIfInBounds_toArray, List.set_cons_zero, List.set_cons_succ])
        obtain ⟨X17, eY⟩ : ∃ Y, Y = ((((X16.setCell ⟨g13, 0, none⟩ (.int .i64 (y.a % 256))).setCell ⟨g13, 1, none⟩ (.int .i64 (y.b % 256))).setCell ⟨g13, 2, none⟩ (.int .i64 (y.c % 256))).setCell ⟨g13, 3, none⟩ (.int .i64 (y.d % 256))) := ⟨_, rfl⟩
        rw [← eY] at hHeld ⊢
        replace k_c : X17.heap[w.heap.size]? = some (.cells #[.int .i64 q.a, .int .i64 q.b, .int .i64 q.c, .int .i64 q.d] 23 (0, 0)) := by rw [eY]; exact (bks ne_c_n8 (bks ne_c_n8 (bks ne_c_n8 (bks ne_c_n8 k_c))))
        replace k_x : X17.heap[g]? = some (.cells #[.int .i64 (x.a % 256), .int .i64 (x.b % 256), .int .i64 (x.c % 256), .int .i64 (x.d % 256)] 25 (0, 0)) := by rw [eY]; exact (bks ne_x_n8 (bks ne_x_n8 (bks ne_x_n8 (bks ne_x_n8 k_x))))
        replace bw : Below w.heap.size w X17 := by rw [eY]; exact (bss lo_n8 (bss lo_n8 (bss lo_n8 (bss lo_n8 bw))))
        replace k_n8 : X17.heap[g13]? = some (.cells #[.int .i64 (y.a % 256), .int .i64 (y.b % 256), .int .i64 (y.c % 256), .int .i64 (y.d % 256)] 25 (0, 0)) := by rw [eY]; exact q4s k_n8
        clear eY
        refine takx (i := 10) (D := 9) (v := .bool true) rfl rfl (by kernel_rfl) (by kernel_rfl) (by kernel_rfl) (fun _ _ _ h => h) (Or.inl ⟨by rfl, fun W hSw => by (try dsimp only at hSw); go_simp⟩) (by assumption) ?_
        (try simp only [List.setIfInBounds_toArray, List.set_cons_zero, List.set_cons_succ])
        refine wpAnyH_done (by kernel_rfl) ?_ _
        go_wp2_with fail
        go_meet
        have exy := Near.same (near_of_first H5.out HO.out Fii.out) Nj.out Hx.out Hy.out
        subst exy
        exact ⟨_, rfl, rfl, k_n8, k_c, k_x, bw⟩
    case rest =>
      clear k_c bw k_x
      obtain ⟨g2, rfl, rfl, k_y, k_c, k_x, BW⟩ := hcut
      have bw := BW.out
      have hii : ((i : Int) == (i : Int)) = true := by simp
      go_upto_region 6 with fail
      refine wp_region_held_drew (S := fun w' => w'.cell? ⟨w.heap.size, 0, none⟩ = some (.int .i64 q.a) ∧ w'.cell? ⟨w.heap.size, 1, none⟩ = some (.int .i64 q.b) ∧ w'.cell? ⟨w.heap.size, 2, none⟩ = some (.int .i64 q.c) ∧ w'.cell? ⟨w.heap.size, 3, none⟩ = some (.int .i64 q.d) ∧ w'.cell? ⟨g, 0, none⟩ = some (.int .i64 (x.a % 256)) ∧ w'.cell? ⟨g, 1, none⟩ = some (.int .i64 (x.b % 256)) ∧ w'.cell? ⟨g, 2, none⟩ = some (.int .i64 (x.c % 256)) ∧ w'.cell? ⟨g, 3, none⟩ = some (.int .i64 (x.d % 256)) ∧ w'.cell? ⟨g2, 0, none⟩ = some (.int .i64 (x.a % 256)) ∧ w'.cell? ⟨g2, 1, none⟩ = some (.int .i64 (x.b % 256)) ∧ w'.cell? ⟨g2, 2, none⟩ = some (.int .i64 (x.c % 256)) ∧ w'.cell? ⟨g2, 3, none⟩ = some (.int .i64 (x.d % 256))) (by kernel_rfl) ⟨(q4c k_c).1.1, (q4c k_c).1.2.1, (q4c k_c).1.2.2.1, (q4c k_c).1.2.2.2, (q4c k_x).1.1, (q4c k_x).1.2.1, (q4c k_x).1.2.2.1, (q4c k_x).1.2.2.2, (q4c k_y).1.1, (q4c k_y).1.2.1, (q4c k_y).1.2.2.1, (q4c k_y).1.2.2.2⟩ ?_
      intro hHeld
      obtain ⟨X0, eX, bc⟩ : ∃ X, X = wc.drew ∧ Below wc.heap.size wc X := ⟨_, rfl, (Below.refl _ _).drew⟩
      rw [← eX] at hHeld ⊢
      replace k_c := bk bc k_c
      replace k_x := bk bc k_x
      replace k_y := bk bc k_y
      replace bw := bs bc bw
      (try replace r1 := (r1.below bc).more bc.size)
      clear eX bc
      refine takx (i := 0) (D := 40) (v := .int .i64 i) rfl rfl (by kernel_rfl) (by kernel_rfl) (by kernel_rfl) (fun _ _ _ h => h) (Or.inl ⟨by rfl, fun W hSw => by (try dsimp only at hSw); go_simp⟩) (by assumption) ?_
      (try simp only [List.setIfInBounds_toArray, List.set_cons_zero, List.set_cons_succ])
      refine takx (i := 1) (D := 41) (v := .slice A n cp) rfl rfl (by kernel_rfl) (by kernel_rfl) (by kernel_rfl) (fun _ _ _ h => h) (Or.inl ⟨by rfl, fun W hSw => by (try dsimp only at hSw); go_simp⟩) (by assumption) ?_
      (try simp only [List.setIfInBounds_toArray, List.set_cons_zero, List.set_cons_succ])
      refine takx (i := 3) (D := 43) (v := .agg #[.int .i64 q.a, .int .i64 q.b, .int .i64 q.c, .int .i64 q.d]) rfl rfl (by kernel_rfl) (by kernel_rfl) (by kernel_rfl) (fun _ _ _ h => h) (Or.inl ⟨by rfl, fun W hSw => by (try dsimp only at hSw); go_simp⟩) (by assumption) ?_
      (try simp only [List.setIfInBounds_toArray, List.set_cons_zero, List.set_cons_succ])
      refine wpAnyH_ready (rs := [2]) (by kernel_rfl) (by simp) ?_
      refine (AllReadyH.cons rfl (fun K hK => ?_) AllReadyH.nil)
      go_simp
      refine (toColors_any n cp A qs _ ((HR.out.below bw).more bw.size)).mono ?_
      rintro e X1 ⟨A1, cp1, rfl, r1, lo1, bc⟩
      refine hK.out _ _ ⟨ck bc hHeld.1, ck bc hHeld.2.1, ck bc hHeld.2.2.1, ck bc hHeld.2.2.2.1, ck bc hHeld.2.2.2.2.1, ck bc hHeld.2.2.2.2.2.1, ck bc hHeld.2.2.2.2.2.2.1, ck bc hHeld.2.2.2.2.2.2.2.1, ck bc hHeld.2.2.2.2.2.2.2.2.1, ck bc hHeld.2.2.2.2.2.2.2.2.2.1, ck bc hHeld.2.2.2.2.2.2.2.2.2.2.1, ck bc hHeld.2.2.2.2.2.2.2.2.2.2.2⟩ (fun hHeld => ?_)
      clear hK K
      (try simp only [List.setIfInBounds_toArray, List.set_cons_zero, List.set_cons_succ])
      replace k_c := bk bc k_c
      replace k_x := bk bc k_x
      replace k_y := bk bc k_y
      replace bw := bs bc bw
      (try replace r1 := (r1.below bc).more bc.size)
      clear bc
      refine wpAnyH_ready (rs := [4]) (by kernel_rfl) (by simp) ?_
      refine (AllReadyH.cons rfl (fun K hK => ?_) AllReadyH.nil)
      go_simp
      refine (toColor4 q.a q.b q.c q.d _).mono ?_
      rintro e X2 ⟨rfl, bc⟩
      refine hK.out _ _ ⟨ck bc hHeld.1, ck bc hHeld.2.1, ck bc hHeld.2.2.1, ck bc hHeld.2.2.2.1, ck bc hHeld.2.2.2.2.1, ck bc hHeld.2.2.2.2.2.1, ck bc hHeld.2.2.2.2.2.2.1, ck bc hHeld.2.2.2.2.2.2.2.1, ck bc hHeld.2.2.2.2.2.2.2.2.1, ck bc hHeld.2.2.2.2.2.2.2.2.2.1, ck bc hHeld.2.2.2.2.2.2.2.2.2.2.1, ck bc hHeld.2.2.2.2.2.2.2.2.2.2.2⟩ (fun hHeld => ?_)
      clear hK K
      (try simp only [List.setIfInBounds_toArray, List.set_cons_zero, List.set_cons_succ])
      replace k_c := bk bc k_c
      replace k_x := bk bc k_x
      replace k_y := bk bc k_y
      replace bw := bs bc bw
      (try replace r1 := (r1.below bc).more bc.size)
      clear bc
      refine wpAnyH_ready (rs := [5]) (by kernel_rfl) (by simp) ?_
      refine (AllReadyH.cons rfl (fun K hK => ?_) AllReadyH.nil)
      go_simp
      refine (sPalIndex4 n cp1 A1 qs q HQ.out _ r1).mono ?_
      rintro e X3 ⟨j, rfl, nj, bc⟩
      obtain rfl : i = j := Ni.out.unique nj
      refine hK.out _ _ ⟨ck bc hHeld.1, ck bc hHeld.2.1, ck bc hHeld.2.2.1, ck bc hHeld.2.2.2.1, ck bc hHeld.2.2.2.2.1, ck bc hHeld.2.2.2.2.2.1, ck bc hHeld.2.2.2.2.2.2.1, ck bc hHeld.2.2.2.2.2.2.2.1, ck bc hHeld.2.2.2.2.2.2.2.2.1, ck bc hHeld.2.2.2.2.2.2.2.2.2.1, ck bc hHeld.2.2.2.2.2.2.2.2.2.2.1, ck bc hHeld.2.2.2.2.2.2.2.2.2.2.2⟩ (fun hHeld => ?_)
      clear hK K
      (try simp only [List.setIfInBounds_toArray, List.set_cons_zero, List.set_cons_succ])
      replace k_c := bk bc k_c
      replace k_x := bk bc k_x
      replace k_y := bk bc k_y
      replace bw := bs bc bw
      (try replace r1 := (r1.below bc).more bc.size)
      clear nj
      clear bc
      refine takx (i := 6) (D := 46) (v := .bool true) rfl rfl (by kernel_rfl) (by kernel_rfl) (by kernel_rfl) (fun _ _ _ h => h) (Or.inl ⟨by rfl, fun W hSw => by (try dsimp only at hSw); go_simp⟩) (by assumption) ?_
      (try simp only [List.setIfInBounds_toArray, List.set_cons_zero, List.set_cons_succ])
      refine takx (i := 7) (D := 47) (v := .bool true) rfl rfl (by kernel_rfl) (by kernel_rfl) (by kernel_rfl) (fun _ _ _ h => h) (Or.inl ⟨by rfl, fun W hSw => by (try dsimp only at hSw); go_simp⟩) (by assumption) ?_
      (try simp only [List.setIfInBounds_toArray, List.set_cons_zero, List.set_cons_succ])
      refine takx (i := 8) (D := 48) (v := .bool true) rfl rfl (by kernel_rfl) (by kernel_rfl) (by kernel_rfl) (fun _ _ _ h => h) (Or.inl ⟨by rfl, fun W hSw => by (try dsimp only at hSw); go_simp⟩) (by assumption) ?_
      (try simp only [List.setIfInBounds_toArray, List.set_cons_zero, List.set_cons_succ])
      refine takx (i := 9) (D := 49) (v := .bool true) rfl rfl (by kernel_rfl) (by kernel_rfl) (by kernel_rfl) (fun _ _ _ h => h) (Or.inl ⟨by rfl, fun W hSw => by (try dsimp only at hSw); go_simp⟩) (by assumption) ?_
      (try simp only [List.setIfInBounds_toArray, List.set_cons_zero, List.set_cons_succ])
      refine takx (i := 10) (D := 50) (v := .bool true) rfl rfl (by kernel_rfl) (by kernel_rfl) (by kernel_rfl) (fun _ _ _ h => h) (Or.inl ⟨by rfl, fun W hSw => by (try dsimp only at hSw); go_simp⟩) (by assumption) ?_
      (try simp only [List.setIfInBounds_toArray, List.set_cons_zero, List.set_cons_succ])
      refine takx (i := 11) (D := 51) (v := .bool true) rfl rfl (by kernel_rfl) (by kernel_rfl) (by kernel_rfl) (fun _ _ _ h => h) (Or.inl ⟨by rfl, fun W hSw => by (try dsimp only at hSw); go_simp⟩) (by assumption) ?_
      (try simp only [List.setIfInBounds_toArray, List.set_cons_zero, List.set_cons_succ])
      refine takx (i := 12) (D := 52) (v := .bool true) rfl rfl (by kernel_rfl) (by kernel_rfl) (by kernel_rfl) (fun _ _ _ h => h) (Or.inl ⟨by rfl, fun W hSw => by (try dsimp only at hSw); go_simp⟩) (by assumption) ?_
      (try simp only [List.setIfInBounds_toArray, List.set_cons_zero, List.set_cons_succ])
      refine takx (i := 13) (D := 53) (v := .agg #[.int .i64 (x.a % 256), .int .i64 (x.b % 256), .int .i64 (x.c % 256), .int .i64 (x.d % 256)]) rfl rfl (by kernel_rfl) (by kernel_rfl) (by kernel_rfl) (fun _ _ _ h => h) (Or.inl ⟨by rfl, fun W hSw => by (try dsimp only at hSw); go_simp⟩) (by assumption) ?_
      (try simp only [List.setIfInBounds_toArray, List.set_cons_zero, List.set_cons_succ])
      refine takx (i := 14) (D := 54) (v := .agg #[.int .i64 (x.a % 256), .int .i64 (x.b % 256), .int .i64 (x.c % 256), .int .i64 (x.d % 256)]) rfl rfl (by kernel_rfl) (by kernel_rfl) (by kernel_rfl) (fun _ _ _ h => h) (Or.inl ⟨by rfl, fun W hSw => by (try dsimp only at hSw); go_simp⟩) (by assumption) ?_
      (try simp only [List.setIfInBounds_toArray, List.set_cons_zero, List.set_cons_succ])
      refine takx (i := 15) (D := 55) (v := .bool true) rfl rfl (by kernel_rfl) (by kernel_rfl) (by kernel_rfl) (fun _ _ _ h => h) (Or.inl ⟨by rfl, fun W hSw => by (try dsimp only at hSw); go_simp⟩) (by assumption) ?_
      (try simp only [List.setIfInBounds_toArray, List.set_cons_zero, List.set_cons_succ])
      refine takx (i := 16) (D := 56) (v := .bool true) rfl rfl (by kernel_rfl) (by kernel_rfl) (by kernel_rfl) (fun _ _ _ h => h) (Or.inl ⟨by rfl, fun W hSw => by (try dsimp only at hSw); go_simp⟩) (by assumption) ?_
      (try simp only [List.setIfInBounds_toArray, List.set_cons_zero, List.set_cons_succ])
      refine takx (i := 17) (D := 4) (v := .bool true) rfl rfl (by kernel_rfl) (by kernel_rfl) (by kernel_rfl) (fun _ _ _ h => h) (Or.inl ⟨by rfl, fun W hSw => by (try dsimp only at hSw); go_simp⟩) (by assumption) ?_
      (try simp only [List.setIfInBounds_toArray, List.set_cons_zero, List.set_cons_succ])
      refine wpAnyH_done (by kernel_rfl) ?_ _
      go_wp2_with fail
      go_ret
      exact ⟨rfl, bw⟩

end Go.Proofs.Ytbhccckfooobcaa

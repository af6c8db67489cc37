/-
  The walk of the law FnPaletteConvert. No condition.
-/
import Derived.Test.YtbhccckfooobcaaP9
namespace Go.Proofs.Ytbhccckfooobcaa
open Go.ChangeShapes Go.WideShapes Go.ChangeAt Go.RowKit
set_option linter.unusedVariables false
set_option linter.unusedSimpArgs false

theorem two_rd (w : World) : RdQuads (w.alloc (.cells #[.int .i64 9, .int .i64 0, .int .i64 0, .int .i64 255, .int .i64 0, .int .i64 0, .int .i64 0, .int .i64 255] 25)) (w.alloc (.cells #[.int .i64 9, .int .i64 0, .int .i64 0, .int .i64 255, .int .i64 0, .int .i64 0, .int .i64 0, .int .i64 255] 25)).heap.size (some ⟨w.heap.size, 0, none⟩) 2 [⟨9, 0, 0, 255⟩, ⟨0, 0, 0, 255⟩] := by
  refine ⟨rfl, by omega, ?_, fun _ => ⟨_, _, rfl, by simp, fun i hi => ?_⟩⟩
  · intro q hq
    simp at hq
    rcases hq with rfl | rfl <;> (refine ⟨?_, ?_, ?_, ?_⟩ <;> (unfold I64; simp only; omega))
  · have h := heap_alloc_new w (.cells #[.int .i64 9, .int .i64 0, .int .i64 0, .int .i64 255, .int .i64 0, .int .i64 0, .int .i64 0, .int .i64 255] 25)
    have c := fun i => cell_of_row _ _ i _ _ (0, 0) h
    match i, hi with
    | 0, _ => exact ⟨c 0, c 1, c 2, c 3⟩
    | 1, _ => exact ⟨c 4, c 5, c 6, c 7⟩
theorem two_one {i : Nat} (h : First ([⟨9, 0, 0, 255⟩, ⟨0, 0, 0, 255⟩].map (sdist ⟨0, 0, 0, 255⟩)) i) : i = 1 := by
  have e : [⟨9, 0, 0, 255⟩, ⟨0, 0, 0, 255⟩].map (sdist ⟨0, 0, 0, 255⟩) = [1337492, 0] := by decide
  rw [e] at h
  rcases h with ⟨h, _⟩ | ⟨h1, h2, h3⟩
  · simp at h
  · match i, h1 with
    | 0, _ => have := h2 1 (by simp); simp at this
    | 1, _ => rfl

set_option maxRecDepth 100000 in
set_option maxHeartbeats 8000000 in
theorem fnPaletteConvert_walk (w : World) (A : Option Addr) (n cp : Nat) (qs : List Q4) (hr : RdQuads w w.heap.size A n qs) (q : Q4) (hq : q.ok) :
    Calls Try.prog 6 #[.slice A n cp, q.val] w fun e w' => e = .returned (.bool true) ∧ Below w.heap.size w w' := by
  show Calls Try.prog 6 #[.slice A n cp, .agg #[.int .i64 q.a, .int .i64 q.b, .int .i64 q.c, .int .i64 q.d]] w _
  have HR := Lib.hid hr
  have HQ := Lib.hid hq
  have hn : n * 32 ≤ 140737488355328 := hr.2.1
  have hqd : I64 q.d := hq.2.2.2
  clear hr hq
  have hcs := fun a b c d W => col_same a b c d W
  have b0 : Below w.heap.size w (w.alloc (.cells #[.int .i64 q.a, .int .i64 q.b, .int .i64 q.c, .int .i64 q.d] 23)) := bsa (Below.refl _ _)
  by_cases h0 : 0 < n
  case neg =>
    replace h0 := Lib.hid (show n = 0 by omega)
    have hz : ((n : Int) == 0) = true := by have := h0.out; simp; omega
    go_enter Try.func6, Try.ntmps6
    go_upto_region 1 with fail
    obtain ⟨W, hW⟩ : ∃ W, W = (w.alloc (.cells #[.int .i64 q.a, .int .i64 q.b, .int .i64 q.c, .int .i64 q.d] 23)) := ⟨_, rfl⟩
    have bw : Below w.heap.size w W := by rw [hW]; exact bsa (Below.refl _ _)
    have k_c : W.heap[w.heap.size]? = some (.cells #[.int .i64 q.a, .int .i64 q.b, .int .i64 q.c, .int .i64 q.d] 23 (0, 0)) := by rw [hW]; exact heap_alloc_new w _
    rw [← hW]
    clear hW b0
    go_cut [5, 6] (fun sx so wx => ∃ (g : Nat), sx = .pointer (some ⟨g, 0, none⟩) ∧ so = .bool false ∧ wx.heap[g]? = some (.cells #[.int .i64 0, .int .i64 0, .int .i64 0, .int .i64 0] 25 (0, 0)) ∧ wx.heap[w.heap.size]? = some (.cells #[.int .i64 q.a, .int .i64 q.b, .int .i64 q.c, .int .i64 q.d] 23 (0, 0)) ∧ Hid (Below w.heap.size w wx))
    case first =>
      refine wp_region_held_drew (S := fun w' => w'.cell? ⟨w.heap.size, 0, none⟩ = some (.int .i64 q.a) ∧ w'.cell? ⟨w.heap.size, 1, none⟩ = some (.int .i64 q.b) ∧ w'.cell? ⟨w.heap.size, 2, none⟩ = some (.int .i64 q.c) ∧ w'.cell? ⟨w.heap.size, 3, none⟩ = some (.int .i64 q.d)) (by kernel_rfl) ⟨(q4c k_c).1.1, (q4c k_c).1.2.1, (q4c k_c).1.2.2.1, (q4c k_c).1.2.2.2⟩ ?_
      intro hHeld
      obtain ⟨X0, eX, bc⟩ : ∃ X, X = W.drew ∧ Below W.heap.size W X := ⟨_, rfl, (Below.refl _ _).drew⟩
      rw [← eX] at hHeld ⊢
      replace k_c := bk bc k_c
      replace bw := bs bc bw
      (try replace r1 := (r1.below bc).more bc.size)
      clear eX bc
      refine takx (i := 0) (D := 9) (v := .slice A n cp) rfl rfl (by kernel_rfl) (by kernel_rfl) (by kernel_rfl) (fun _ _ _ h => h) (Or.inl ⟨by rfl, fun W hSw => by (try dsimp only at hSw); go_simp⟩) (by assumption) ?_
      (try simp only [List.setIfInBounds_toArray, List.set_cons_zero, List.set_cons_succ])
      refine takx (i := 2) (D := 11) (v := .agg #[.int .i64 q.a, .int .i64 q.b, .int .i64 q.c, .int .i64 q.d]) rfl rfl (by kernel_rfl) (by kernel_rfl) (by kernel_rfl) (fun _ _ _ h => h) (Or.inl ⟨by rfl, fun W hSw => by (try dsimp only at hSw); go_simp⟩) (by assumption) ?_
      (try simp only [List.setIfInBounds_toArray, List.set_cons_zero, List.set_cons_succ])
      refine wpAnyH_ready (rs := [1, 8]) (by kernel_rfl) (by simp) ?_
      refine (AllReadyH.cons rfl (fun K hK => ?_) (AllReadyH.cons rfl (fun K hK => ?_) AllReadyH.nil))
      · go_simp
        refine (toColors_any n cp A qs _ ((HR.out.below bw).more bw.size)).mono ?_
        rintro e X1 ⟨A1, cp1, rfl, r1, lo1, bc⟩
        refine hK.out _ _ ⟨ck bc hHeld.1, ck bc hHeld.2.1, ck bc hHeld.2.2.1, ck bc hHeld.2.2.2⟩ (fun hHeld => ?_)
        clear hK K
        (try simp only [List.setIfInBounds_toArray, List.set_cons_zero, List.set_cons_succ])
        replace k_c := bk bc k_c
        replace bw := bs bc bw
        (try replace r1 := (r1.below bc).more bc.size)
        clear bc
        refine wpAnyH_ready (rs := [3, 8]) (by kernel_rfl) (by simp) ?_
        refine (AllReadyH.cons rfl (fun K hK => ?_) (AllReadyH.cons rfl (fun K hK => ?_) AllReadyH.nil))
        · go_simp
          refine (toColor4 q.a q.b q.c q.d _).mono ?_
          rintro e X2 ⟨rfl, bc⟩
          refine hK.out _ _ ⟨ck bc hHeld.1, ck bc hHeld.2.1, ck bc hHeld.2.2.1, ck bc hHeld.2.2.2⟩ (fun hHeld => ?_)
          clear hK K
          (try simp only [List.setIfInBounds_toArray, List.set_cons_zero, List.set_cons_succ])
          replace k_c := bk bc k_c
          replace bw := bs bc bw
          (try replace r1 := (r1.below bc).more bc.size)
          clear bc
          refine wpAnyH_ready (rs := [4, 8]) (by kernel_rfl) (by simp) ?_
          refine (AllReadyH.cons rfl (fun K hK => ?_) (AllReadyH.cons rfl (fun K hK => ?_) AllReadyH.nil))
          · go_simp
            refine (palConv0 n cp1 A1 qs (q.a) (q.b) (q.c) (q.d) _ r1 h0).mono ?_
            rintro e X3 ⟨rfl, bc⟩
            refine hK.out _ _ ⟨ck bc hHeld.1, ck bc hHeld.2.1, ck bc hHeld.2.2.1, ck bc hHeld.2.2.2⟩ (fun hHeld => ?_)
            clear hK K
            (try simp only [List.setIfInBounds_toArray, List.set_cons_zero, List.set_cons_succ])
            replace k_c := bk bc k_c
            replace bw := bs bc bw
            (try replace r1 := (r1.below bc).more bc.size)
            clear bc
            refine takx (i := 5) (D := 8) (v := .tuple #[.agg #[.int .i64 0, .int .i64 0, .int .i64 0, .int .i64 0], .bool false]) rfl rfl (by kernel_rfl) (by kernel_rfl) (by kernel_rfl) (fun _ _ _ h => h) (Or.inl ⟨by rfl, fun W hSw => by (try dsimp only at hSw); go_simp⟩) (by assumption) ?_
            (try simp only [List.setIfInBounds_toArray, List.set_cons_zero, List.set_cons_succ])
            refine takx (i := 6) (D := 14) (v := .agg #[.int .i64 0, .int .i64 0, .int .i64 0, .int .i64 0]) rfl rfl (by kernel_rfl) (by kernel_rfl) (by kernel_rfl) (fun _ _ _ h => h) (Or.inl ⟨by rfl, fun W hSw => by (try dsimp only at hSw); go_simp⟩) (by assumption) ?_
            (try simp only [List.setIfInBounds_toArray, List.set_cons_zero, List.set_cons_succ])
            refine takx (i := 7) (D := 15) (v := .bool false) rfl rfl (by kernel_rfl) (by kernel_rfl) (by kernel_rfl) (fun _ _ _ h => h) (Or.inl ⟨by rfl, fun W hSw => by (try dsimp only at hSw); go_simp⟩) (by assumption) ?_
            (try simp only [List.setIfInBounds_toArray, List.set_cons_zero, List.set_cons_succ])
            refine wpAnyH_ready (rs := [8]) (by kernel_rfl) (by simp) ?_
            refine (AllReadyH.cons rfl (fun K hK => ?_) AllReadyH.nil)
            go_simp
            refine hK.out _ _ ⟨cka hHeld.1, cka hHeld.2.1, cka hHeld.2.2.1, cka hHeld.2.2.2⟩ (fun hHeld => ?_)
            clear hK K
            (try simp only [List.setIfInBounds_toArray, List.set_cons_zero, List.set_cons_succ])
            obtain ⟨X4, g4, eY, eg⟩ : ∃ Y g, Y = X3.alloc (.cells #[.int .i64 0, .int .i64 0, .int .i64 0, .int .i64 0] 25) ∧ g = X3.heap.size := ⟨_, _, rfl, rfl⟩
            rw [← eY, ← eg]
            rw [← eY] at hHeld
            have bc : Below X3.heap.size X3 X4 := by rw [eY]; exact (Below.refl _ _).alloc (Nat.le_refl _) _
            have k_n5 : X4.heap[g4]? = some (.cells #[.int .i64 0, .int .i64 0, .int .i64 0, .int .i64 0] 25 (0, 0)) := by rw [eY, eg]; exact heap_alloc_new X3 _
            have lo_n5 : w.heap.size ≤ g4 := by rw [eg]; exact bw.size
            have ne_c_n5 : ¬ w.heap.size = g4 := ne_new k_c eg
            replace k_c := bk bc k_c
            replace bw := bs bc bw
            (try replace r1 := (r1.below bc).more bc.size)
            clear bc eY eg
            refine wpAnyH_ready (rs := [9]) (by kernel_rfl) (by simp) ?_
            refine (AllReadyH.cons rfl (fun K hK => ?_) AllReadyH.nil)
            have qq := q4c k_n5
            go_simp
            clear qq
            refine hK.out _ _ ⟨(cks ne_c_n5 (cks ne_c_n5 (cks ne_c_n5 (cks ne_c_n5 hHeld.1)))), (cks ne_c_n5 (cks ne_c_n5 (cks ne_c_n5 (cks ne_c_n5 hHeld.2.1)))), (cks ne_c_n5 (cks ne_c_n5 (cks ne_c_n5 (cks ne_c_n5 hHeld.2.2.1)))), (cks ne_c_n5 (cks ne_c_n5 (cks ne_c_n5 (cks ne_c_n5 hHeld.2.2.2))))⟩ (fun hHeld => ?_)
            clear hK K
            (try simp only [List.setIfInBounds_toArray, List.set_cons_zero, List.set_cons_succ])
            obtain ⟨X5, eY⟩ : ∃ Y, Y = ((((X4.setCell ⟨g4, 0, none⟩ (.int .i64 0)).setCell ⟨g4, 1, none⟩ (.int .i64 0)).setCell ⟨g4, 2, none⟩ (.int .i64 0)).setCell ⟨g4, 3, none⟩ (.int .i64 0)) := ⟨_, rfl⟩
            rw [← eY] at hHeld ⊢
            replace k_c : X5.heap[w.heap.size]? = some (.cells #[.int .i64 q.a, .int .i64 q.b, .int .i64 q.c, .int .i64 q.d] 23 (0, 0)) := by rw [eY]; exact (bks ne_c_n5 (bks ne_c_n5 (bks ne_c_n5 (bks ne_c_n5 k_c))))
            replace bw : Below w.heap.size w X5 := by rw [eY]; exact (bss lo_n5 (bss lo_n5 (bss lo_n5 (bss lo_n5 bw))))
            replace k_n5 : X5.heap[g4]? = some (.cells #[.int .i64 0, .int .i64 0, .int .i64 0, .int .i64 0] 25 (0, 0)) := by rw [eY]; exact q4s k_n5
            clear eY
            refine takx (i := 10) (D := 6) (v := .bool false) rfl rfl (by kernel_rfl) (by kernel_rfl) (by kernel_rfl) (fun _ _ _ h => h) (Or.inl ⟨by rfl, fun W hSw => by (try dsimp only at hSw); go_simp⟩) (by assumption) ?_
            (try simp only [List.setIfInBounds_toArray, List.set_cons_zero, List.set_cons_succ])
            refine wpAnyH_done (by kernel_rfl) ?_ _
            go_wp2_with fail
            go_meet
            exact ⟨_, rfl, rfl, k_n5, k_c, bw⟩
          · go_simp
            refine hK.out _ _ ⟨cka hHeld.1, cka hHeld.2.1, cka hHeld.2.2.1, cka hHeld.2.2.2⟩ (fun hHeld => ?_)
            clear hK K
            (try simp only [List.setIfInBounds_toArray, List.set_cons_zero, List.set_cons_succ])
            obtain ⟨X6, g6, eY, eg⟩ : ∃ Y g, Y = X2.alloc (.cells #[.int .i64 0, .int .i64 0, .int .i64 0, .int .i64 0] 25) ∧ g = X2.heap.size := ⟨_, _, rfl, rfl⟩
            rw [← eY, ← eg]
            rw [← eY] at hHeld
            have bc : Below X2.heap.size X2 X6 := by rw [eY]; exact (Below.refl _ _).alloc (Nat.le_refl _) _
            have k_n5 : X6.heap[g6]? = some (.cells #[.int .i64 0, .int .i64 0, .int .i64 0, .int .i64 0] 25 (0, 0)) := by rw [eY, eg]; exact heap_alloc_new X2 _
            have lo_n5 : w.heap.size ≤ g6 := by rw [eg]; exact bw.size
            have ne_c_n5 : ¬ w.heap.size = g6 := ne_new k_c eg
            replace k_c := bk bc k_c
            replace bw := bs bc bw
            (try replace r1 := (r1.below bc).more bc.size)
            clear bc eY eg
            refine wpAnyH_ready (rs := [4]) (by kernel_rfl) (by simp) ?_
            refine (AllReadyH.cons rfl (fun K hK => ?_) AllReadyH.nil)
            go_simp
            refine (palConv0 n cp1 A1 qs (q.a) (q.b) (q.c) (q.d) _ r1 h0).mono ?_
            rintro e X7 ⟨rfl, bc⟩
            refine hK.out _ _ ⟨ck bc hHeld.1, ck bc hHeld.2.1, ck bc hHeld.2.2.1, ck bc hHeld.2.2.2⟩ (fun hHeld => ?_)
            clear hK K
            (try simp only [List.setIfInBounds_toArray, List.set_cons_zero, List.set_cons_succ])
            replace k_c := bk bc k_c
            replace k_n5 := bk bc k_n5
            replace bw := bs bc bw
            (try replace r1 := (r1.below bc).more bc.size)
            clear bc
            refine takx (i := 5) (D := 8) (v := .tuple #[.agg #[.int .i64 0, .int .i64 0, .int .i64 0, .int .i64 0], .bool false]) rfl rfl (by kernel_rfl) (by kernel_rfl) (by kernel_rfl) (fun _ _ _ h => h) (Or.inl ⟨by rfl, fun W hSw => by (try dsimp only at hSw); go_simp⟩) (by assumption) ?_
            (try simp only [List.setIfInBounds_toArray, List.set_cons_zero, List.set_cons_succ])
            refine takx (i := 6) (D := 14) (v := .agg #[.int .i64 0, .int .i64 0, .int .i64 0, .int .i64 0]) rfl rfl (by kernel_rfl) (by kernel_rfl) (by kernel_rfl) (fun _ _ _ h => h) (Or.inl ⟨by rfl, fun W hSw => by (try dsimp only at hSw); go_simp⟩) (by assumption) ?_
            (try simp only [List.setIfInBounds_toArray, List.set_cons_zero, List.set_cons_succ])
            refine takx (i := 7) (D := 15) (v := .bool false) rfl rfl (by kernel_rfl) (by kernel_rfl) (by kernel_rfl) (fun _ _ _ h => h) (Or.inl ⟨by rfl, fun W hSw => by (try dsimp only at hSw); go_simp⟩) (by assumption) ?_
            (try simp only [List.setIfInBounds_toArray, List.set_cons_zero, List.set_cons_succ])
            refine wpAnyH_ready (rs := [9]) (by kernel_rfl) (by simp) ?_
            refine (AllReadyH.cons rfl (fun K hK => ?_) AllReadyH.nil)
            have qq := q4c k_n5
            go_simp
            clear qq
            refine hK.out _ _ ⟨(cks ne_c_n5 (cks ne_c_n5 (cks ne_c_n5 (cks ne_c_n5 hHeld.1)))), (cks ne_c_n5 (cks ne_c_n5 (cks ne_c_n5 (cks ne_c_n5 hHeld.2.1)))), (cks ne_c_n5 (cks ne_c_n5 (cks ne_c_n5 (cks ne_c_n5 hHeld.2.2.1)))), (cks ne_c_n5 (cks ne_c_n5 (cks ne_c_n5 (cks ne_c_n5 hHeld.2.2.2))))⟩ (fun hHeld => ?_)
            clear hK K
            (try simp only [List.setIfInBounds_toArray, List.set_cons_zero, List.set_cons_succ])
            obtain ⟨X8, eY⟩ : ∃ Y, Y = ((((X7.setCell ⟨g6, 0, none⟩ (.int .i64 0)).setCell ⟨g6, 1, none⟩ (.int .i64 0)).setCell ⟨g6, 2, none⟩ (.int .i64 0)).setCell ⟨g6, 3, none⟩ (.int .i64 0)) := ⟨_, rfl⟩
            rw [← eY] at hHeld ⊢
            replace k_c : X8.heap[w.heap.size]? = some (.cells #[.int .i64 q.a, .int .i64 q.b, .int .i64 q.c, .int .i64 q.d] 23 (0, 0)) := by rw [eY]; exact (bks ne_c_n5 (bks ne_c_n5 (bks ne_c_n5 (bks ne_c_n5 k_c))))
            replace bw : Below w.heap.size w X8 := by rw [eY]; exact (bss lo_n5 (bss lo_n5 (bss lo_n5 (bss lo_n5 bw))))
            replace k_n5 : X8.heap[g6]? = some (.cells #[.int .i64 0, .int .i64 0, .int .i64 0, .int .i64 0] 25 (0, 0)) := by rw [eY]; exact q4s k_n5
            clear eY
            refine takx (i := 10) (D := 6) (v := .bool false) rfl rfl (by kernel_rfl) (by kernel_rfl) (by kernel_rfl) (fun _ _ _ h => h) (Or.inl ⟨by rfl, fun W hSw => by (try dsimp only at hSw); go_simp⟩) (by assumption) ?_
            (try simp only [List.setIfInBounds_toArray, List.set_cons_zero, List.set_cons_succ])
            refine wpAnyH_done (by kernel_rfl) ?_ _
            go_wp2_with fail
            go_meet
            exact ⟨_, rfl, rfl, k_n5, k_c, bw⟩
        · go_simp
          refine hK.out _ _ ⟨cka hHeld.1, cka hHeld.2.1, cka hHeld.2.2.1, cka hHeld.2.2.2⟩ (fun hHeld => ?_)
          clear hK K
          (try simp only [List.setIfInBounds_toArray, List.set_cons_zero, List.set_cons_succ])
          obtain ⟨X9, g9, eY, eg⟩ : ∃ Y g, Y = X1.alloc (.cells #[.int .i64 0, .int .i64 0, .int .i64 0, .int .i64 0] 25) ∧ g = X1.heap.size := ⟨_, _, rfl, rfl⟩
          rw [← eY, ← eg]
          rw [← eY] at hHeld
          have bc : Below X1.heap.size X1 X9 := by rw [eY]; exact (Below.refl _ _).alloc (Nat.le_refl _) _
          have k_n5 : X9.heap[g9]? = some (.cells #[.int .i64 0, .int .i64 0, .int .i64 0, .int .i64 0] 25 (0, 0)) := by rw [eY, eg]; exact heap_alloc_new X1 _
          have lo_n5 : w.heap.size ≤ g9 := by rw [eg]; exact bw.size
          have ne_c_n5 : ¬ w.heap.size = g9 := ne_new k_c eg
          replace k_c := bk bc k_c
          replace bw := bs bc bw
          (try replace r1 := (r1.below bc).more bc.size)
          clear bc eY eg
          refine wpAnyH_ready (rs := [3]) (by kernel_rfl) (by simp) ?_
          refine (AllReadyH.cons rfl (fun K hK => ?_) AllReadyH.nil)
          go_simp
          refine (toColor4 q.a q.b q.c q.d _).mono ?_
          rintro e X10 ⟨rfl, bc⟩
          refine hK.out _ _ ⟨ck bc hHeld.1, ck bc hHeld.2.1, ck bc hHeld.2.2.1, ck bc hHeld.2.2.2⟩ (fun hHeld => ?_)
          clear hK K
          (try simp only [List.setIfInBounds_toArray, List.set_cons_zero, List.set_cons_succ])
          replace k_c := bk bc k_c
          replace k_n5 := bk bc k_n5
          replace bw := bs bc bw
          (try replace r1 := (r1.below bc).more bc.size)
          clear bc
          refine wpAnyH_ready (rs := [4]) (by kernel_rfl) (by simp) ?_
          refine (AllReadyH.cons rfl (fun K hK => ?_) AllReadyH.nil)
          go_simp
          refine (palConv0 n cp1 A1 qs (q.a) (q.b) (q.c) (q.d) _ r1 h0).mono ?_
          rintro e X11 ⟨rfl, bc⟩
          refine hK.out _ _ ⟨ck bc hHeld.1, ck bc hHeld.2.1, ck bc hHeld.2.2.1, ck bc hHeld.2.2.2⟩ (fun hHeld => ?_)
          clear hK K
          (try simp only [List.setIfInBounds_toArray, List.set_cons_zero, List.set_cons_succ])
          replace k_c := bk bc k_c
          replace k_n5 := bk bc k_n5
          replace bw := bs bc bw
          (try replace r1 := (r1.below bc).more bc.size)
          clear bc
          refine takx (i := 5) (D := 8) (v := .tuple #[.agg #[.int .i64 0, .int .i64 0, .int .i64 0, .int .i64 0], .bool false]) rfl rfl (by kernel_rfl) (by kernel_rfl) (by kernel_rfl) (fun _ _ _ h => h) (Or.inl ⟨by rfl, fun W hSw => by (try dsimp only at hSw); go_simp⟩) (by assumption) ?_
          (try simp only [List.setIfInBounds_toArray, List.set_cons_zero, List.set_cons_succ])
          refine takx (i := 6) (D := 14) (v := .agg #[.int .i64 0, .int .i64 0, .int .i64 0, .int .i64 0]) rfl rfl (by kernel_rfl) (by kernel_rfl) (by kernel_rfl) (fun _ _ _ h => h) (Or.inl ⟨by rfl, fun W hSw => by (try dsimp only at hSw); go_simp⟩) (by assumption) ?_
          (try simp only [List.setIfInBounds_toArray, List.set_cons_zero, List.set_cons_succ])
          refine takx (i := 7) (D := 15) (v := .bool false) rfl rfl (by kernel_rfl) (by kernel_rfl) (by kernel_rfl) (fun _ _ _ h => h) (Or.inl ⟨by rfl, fun W hSw => by (try dsimp only at hSw); go_simp⟩) (by assumption) ?_
          (try simp only [List.setIfInBounds_toArray, List.set_cons_zero, List.set_cons_succ])
          refine wpAnyH_ready (rs := [9]) (by kernel_rfl) (by simp) ?_
          refine (AllReadyH.cons rfl (fun K hK => ?_) AllReadyH.nil)
          have qq := q4c k_n5
          go_simp
          clear qq
          refine hK.out _ _ ⟨(cks ne_c_n5 (cks ne_c_n5 (cks ne_c_n5 (cks ne_c_n5 hHeld.1)))), (cks ne_c_n5 (cks ne_c_n5 (cks ne_c_n5 (cks ne_c_n5 hHeld.2.1)))), (cks ne_c_n5 (cks ne_c_n5 (cks ne_c_n5 (cks ne_c_n5 hHeld.2.2.1)))), (cks ne_c_n5 (cks ne_c_n5 (cks ne_c_n5 (cks ne_c_n5 hHeld.2.2.2))))⟩ (fun hHeld => ?_)
          clear hK K
          (try simp only [List.setIfInBounds_toArray, List.set_cons_zero, List.set_cons_succ])
          obtain ⟨X12, eY⟩ : ∃ Y, Y = ((((X11.setCell ⟨g9, 0, none⟩ (.int .i64 0)).setCell ⟨g9, 1, none⟩ (.int .i64 0)).setCell ⟨g9, 2, none⟩ (.int .i64 0)).setCell ⟨g9, 3, none⟩ (.int .i64 0)) := ⟨_, rfl⟩
          rw [← eY] at hHeld ⊢
          replace k_c : X12.heap[w.heap.size]? = some (.cells #[.int .i64 q.a, .int .i64 q.b, .int .i64 q.c, .int .i64 q.d] 23 (0, 0)) := by rw [eY]; exact (bks ne_c_n5 (bks ne_c_n5 (bks ne_c_n5 (bks ne_c_n5 k_c))))
          replace bw : Below w.heap.size w X12 := by rw [eY]; exact (bss lo_n5 (bss lo_n5 (bss lo_n5 (bss lo_n5 bw))))
          replace k_n5 : X12.heap[g9]? = some (.cells #[.int .i64 0, .int .i64 0, .int .i64 0, .int .i64 0] 25 (0, 0)) := by rw [eY]; exact q4s k_n5
          clear eY
          refine takx (i := 10) (D := 6) (v := .bool false) rfl rfl (by kernel_rfl) (by kernel_rfl) (by kernel_rfl) (fun _ _ _ h => h) (Or.inl ⟨by rfl, fun W hSw => by (try dsimp only at hSw); go_simp⟩) (by assumption) ?_
          (try simp only [List.setIfInBounds_toArray, List.set_cons_zero, List.set_cons_succ])
          refine wpAnyH_done (by kernel_rfl) ?_ _
          go_wp2_with fail
          go_meet
          exact ⟨_, rfl, rfl, k_n5, k_c, bw⟩
      · go_simp
        refine hK.out _ _ ⟨cka hHeld.1, cka hHeld.2.1, cka hHeld.2.2.1, cka hHeld.2.2.2⟩ (fun hHeld => ?_)
        clear hK K
        (try simp only [List.setIfInBounds_toArray, List.set_cons_zero, List.set_cons_succ])
        obtain ⟨X13, g13, eY, eg⟩ : ∃ Y g, Y = X0.alloc (.cells #[.int .i64 0, .int .i64 0, .int .i64 0, .int .i64 0] 25) ∧ g = X0.heap.size := ⟨_, _, rfl, rfl⟩
        rw [← eY, ← eg]
        rw [← eY] at hHeld
        have bc : Below X0.heap.size X0 X13 := by rw [eY]; exact (Below.refl _ _).alloc (Nat.le_refl _) _
        have k_n5 : X13.heap[g13]? = some (.cells #[.int .i64 0, .int .i64 0, .int .i64 0, .int .i64 0] 25 (0, 0)) := by rw [eY, eg]; exact heap_alloc_new X0 _
        have lo_n5 : w.heap.size ≤ g13 := by rw [eg]; exact bw.size
        have ne_c_n5 : ¬ w.heap.size = g13 := ne_new k_c eg
        replace k_c := bk bc k_c
        replace bw := bs bc bw
        (try replace r1 := (r1.below bc).more bc.size)
        clear bc eY eg
        refine wpAnyH_ready (rs := [1]) (by kernel_rfl) (by simp) ?_
        refine (AllReadyH.cons rfl (fun K hK => ?_) AllReadyH.nil)
        go_simp
        refine (toColors_any n cp A qs _ ((HR.out.below bw).more bw.size)).mono ?_
        rintro e X14 ⟨A1, cp1, rfl, r1, lo1, bc⟩
        refine hK.out _ _ ⟨ck bc hHeld.1, ck bc hHeld.2.1, ck bc hHeld.2.2.1, ck bc hHeld.2.2.2⟩ (fun hHeld => ?_)
        clear hK K
        (try simp only [List.setIfInBounds_toArray, List.set_cons_zero, List.set_cons_succ])
        replace k_c := bk bc k_c
        replace k_n5 := bk bc k_n5
        replace bw := bs bc bw
        (try replace r1 := (r1.below bc).more bc.size)
        clear bc
        refine wpAnyH_ready (rs := [3]) (by kernel_rfl) (by simp) ?_
        refine (AllReadyH.cons rfl (fun K hK => ?_) AllReadyH.nil)
        go_simp
        refine (toColor4 q.a q.b q.c q.d _).mono ?_
        rintro e X15 ⟨rfl, bc⟩
        refine hK.out _ _ ⟨ck bc hHeld.1, ck bc hHeld.2.1, ck bc hHeld.2.2.1, ck bc hHeld.2.2.2⟩ (fun hHeld => ?_)
        clear hK K
        (try simp only [List.setIfInBounds_toArray, List.set_cons_zero, List.set_cons_succ])
        replace k_c := bk bc k_c
        replace k_n5 := bk bc k_n5
        replace bw := bs bc bw
        (try replace r1 := (r1.below bc).more bc.size)
        clear bc
        refine wpAnyH_ready (rs := [4]) (by kernel_rfl) (by simp) ?_
        refine (AllReadyH.cons rfl (fun K hK => ?_) AllReadyH.nil)
        go_simp
        refine (palConv0 n cp1 A1 qs (q.a) (q.b) (q.c) (q.d) _ r1 h0).mono ?_
        rintro e X16 ⟨rfl, bc⟩
        refine hK.out _ _ ⟨ck bc hHeld.1, ck bc hHeld.2.1, ck bc hHeld.2.2.1, ck bc hHeld.2.2.2⟩ (fun hHeld => ?_)
        clear hK K
        (try simp only [List.setIfInBounds_toArray, List.set_cons_zero, List.set_cons_succ])
        replace k_c := bk bc k_c
        replace k_n5 := bk bc k_n5
        replace bw := bs bc bw
        (try replace r1 := (r1.below bc).more bc.size)
        clear bc
        refine takx (i := 5) (D := 8) (v := .tuple #[.agg #[.int .i64 0, .int .i64 0, .int .i64 0, .int .i64 0], .bool false]) rfl rfl (by kernel_rfl) (by kernel_rfl) (by kernel_rfl) (fun _ _ _ h => h) (Or.inl ⟨by rfl, fun W hSw => by (try dsimp only at hSw); go_simp⟩) (by assumption) ?_
        (try simp only [List.setIfInBounds_toArray, List.set_cons_zero, List.set_cons_succ])
        refine takx (i := 6) (D := 14) (v := .agg #[.int .i64 0, .int .i64 0, .int .i64 0, .int .i64 0]) rfl rfl (by kernel_rfl) (by kernel_rfl) (by kernel_rfl) (fun _ _ _ h => h) (Or.inl ⟨by rfl, fun W hSw => by (try dsimp only at hSw); go_simp⟩) (by assumption) ?_
        (try simp only [List.setIfInBounds_toArray, List.set_cons_zero, List.set_cons_succ])
        refine takx (i := 7) (D := 15) (v := .bool false) rfl rfl (by kernel_rfl) (by kernel_rfl) (by kernel_rfl) (fun _ _ _ h => h) (Or.inl ⟨by rfl, fun W hSw => by (try dsimp only at hSw); go_simp⟩) (by assumption) ?_
        (try simp only [List.setIfInBounds_toArray, List.set_cons_zero, List.set_cons_succ])
        refine wpAnyH_ready (rs := [9]) (by kernel_rfl) (by simp) ?_
        refine (AllReadyH.cons rfl (fun K hK => ?_) AllReadyH.nil)
        have qq := q4c k_n5
        go_simp
        clear qq
        refine hK.out _ _ ⟨(cks ne_c_n5 (cks ne_c_n5 (cks ne_c_n5 (cks ne_c_n5 hHeld.1)))), (cks ne_c_n5 (cks ne_c_n5 (cks ne_c_n5 (cks ne_c_n5 hHeld.2.1)))), (cks ne_c_n5 (cks ne_c_n5 (cks ne_c_n5 (cks ne_c_n5 hHeld.2.2.1)))), (cks ne_c_n5 (cks ne_c_n5 (cks ne_c_n5 (cks ne_c_n5 hHeld.2.2.2))))⟩ (fun hHeld => ?_)
        clear hK K
        (try simp only [List.setIfInBounds_toArray, List.set_cons_zero, List.set_cons_succ])
        obtain ⟨X17, eY⟩ : ∃ Y, Y = ((((X16.setCell ⟨g13, 0, none⟩ (.int .i64 0)).setCell ⟨g13, 1, none⟩ (.int .i64 0)).setCell ⟨g13, 2, none⟩ (.int .i64 0)).setCell ⟨g13, 3, none⟩ (.int .i64 0)) := ⟨_, rfl⟩
        rw [← eY] at hHeld ⊢
        replace k_c : X17.heap[w.heap.size]? = some (.cells #[.int .i64 q.a, .int .i64 q.b, .int .i64 q.c, .int .i64 q.d] 23 (0, 0)) := by rw [eY]; exact (bks ne_c_n5 (bks ne_c_n5 (bks ne_c_n5 (bks ne_c_n5 k_c))))
        replace bw : Below w.heap.size w X17 := by rw [eY]; exact (bss lo_n5 (bss lo_n5 (bss lo_n5 (bss lo_n5 bw))))
        replace k_n5 : X17.heap[g13]? = some (.cells #[.int .i64 0, .int .i64 0, .int .i64 0, .int .i64 0] 25 (0, 0)) := by rw [eY]; exact q4s k_n5
        clear eY
        refine takx (i := 10) (D := 6) (v := .bool false) rfl rfl (by kernel_rfl) (by kernel_rfl) (by kernel_rfl) (fun _ _ _ h => h) (Or.inl ⟨by rfl, fun W hSw => by (try dsimp only at hSw); go_simp⟩) (by assumption) ?_
        (try simp only [List.setIfInBounds_toArray, List.set_cons_zero, List.set_cons_succ])
        refine wpAnyH_done (by kernel_rfl) ?_ _
        go_wp2_with fail
        go_meet
        exact ⟨_, rfl, rfl, k_n5, k_c, bw⟩
    case rest =>
      clear k_c bw
      obtain ⟨g, rfl, rfl, k_x, k_c, BW⟩ := hcut
      obtain ⟨⟨x1, x2, x3, x4⟩, _⟩ := q4c k_x
      have KX := Lib.hid (show _ from And.intro k_x k_c)
      clear k_x k_c
      go_wp2_with fail
      refine (palIndex4 2 2 (some ⟨wc.heap.size, 0, none⟩) [⟨9, 0, 0, 255⟩, ⟨0, 0, 0, 255⟩] 0 0 0 255 _ (two_rd wc)).mono ?_
      rintro e w2 ⟨i, rfl, hf, bc⟩
      obtain rfl : i = 1 := two_one hf
      have b9 := bs bc (bsa BW.out)
      go_wp2
      go_ret
      exact ⟨rfl, b9⟩
  have hz : ((n : Int) == 0) = false := by simp; omega
  obtain ⟨b, off, rfl, _⟩ := HR.out.2.2.2 h0
  go_enter Try.func6, Try.ntmps6
  go_upto_region 1 with fail
  obtain ⟨W, hW⟩ : ∃ W, W = (w.alloc (.cells #[.int .i64 q.a, .int .i64 q.b, .int .i64 q.c, .int .i64 q.d] 23)) := ⟨_, rfl⟩
  have bw : Below w.heap.size w W := by rw [hW]; exact bsa (Below.refl _ _)
  have k_c : W.heap[w.heap.size]? = some (.cells #[.int .i64 q.a, .int .i64 q.b, .int .i64 q.c, .int .i64 q.d] 23 (0, 0)) := by rw [hW]; exact heap_alloc_new w _
  rw [← hW]
  clear hW b0
  go_cut [5, 6] (fun sx so wx => ∃ (g ii : Nat) (x : Q4), sx = .pointer (some ⟨g, 0, none⟩) ∧ so = .bool true ∧ wx.heap[g]? = some (.cells #[.int .i64 (x.a % 256), .int .i64 (x.b % 256), .int .i64 (x.c % 256), .int .i64 (x.d % 256)] 25 (0, 0)) ∧ wx.heap[w.heap.size]? = some (.cells #[.int .i64 q.a, .int .i64 q.b, .int .i64 q.c, .int .i64 q.d] 23 (0, 0)) ∧ Hid (x = qs.getD ii default) ∧ Hid (First (qs.map (sdist q)) ii) ∧ Hid (Below w.heap.size w wx))
  case first =>
    refine wp_region_held_drew (S := fun w' => w'.cell? ⟨w.heap.size, 0, none⟩ = some (.int .i64 q.a) ∧ w'.cell? ⟨w.heap.size, 1, none⟩ = some (.int .i64 q.b) ∧ w'.cell? ⟨w.heap.size, 2, none⟩ = some (.int .i64 q.c) ∧ w'.cell? ⟨w.heap.size, 3, none⟩ = some (.int .i64 q.d)) (by kernel_rfl) ⟨(q4c k_c).1.1, (q4c k_c).1.2.1, (q4c k_c).1.2.2.1, (q4c k_c).1.2.2.2⟩ ?_
    intro hHeld
    obtain ⟨X0, eX, bc⟩ : ∃ X, X = W.drew ∧ Below W.heap.size W X := ⟨_, rfl, (Below.refl _ _).drew⟩
    rw [← eX] at hHeld ⊢
    replace k_c := bk bc k_c
    replace bw := bs bc bw
    (try replace r1 := (r1.below bc).more bc.size)
    clear eX bc
    refine takx (i := 0) (D := 9) (v := .slice (some ⟨b, off, none⟩) n cp) rfl rfl (by kernel_rfl) (by kernel_rfl) (by kernel_rfl) (fun _ _ _ h => h) (Or.inl ⟨by rfl, fun W hSw => by (try dsimp only at hSw); go_simp⟩) (by assumption) ?_
    (try simp only [List.setIfInBounds_toArray, List.set_cons_zero, List.set_cons_succ])
    refine takx (i := 2) (D := 11) (v := .agg #[.int .i64 q.a, .int .i64 q.b, .int .i64 q.c, .int .i64 q.d]) rfl rfl (by kernel_rfl) (by kernel_rfl) (by kernel_rfl) (fun _ _ _ h => h) (Or.inl ⟨by rfl, fun W hSw => by (try dsimp only at hSw); go_simp⟩) (by assumption) ?_
    (try simp only [List.setIfInBounds_toArray, List.set_cons_zero, List.set_cons_succ])
    refine wpAnyH_ready (rs := [1, 8]) (by kernel_rfl) (by simp) ?_
    refine (AllReadyH.cons rfl (fun K hK => ?_) (AllReadyH.cons rfl (fun K hK => ?_) AllReadyH.nil))
    · go_simp
      refine (toColors_any n cp (some ⟨b, off, none⟩) qs _ ((HR.out.below bw).more bw.size)).mono ?_
      rintro e X1 ⟨A1, cp1, rfl, r1, lo1, bc⟩
      refine hK.out _ _ ⟨ck bc hHeld.1, ck bc hHeld.2.1, ck bc hHeld.2.2.1, ck bc hHeld.2.2.2⟩ (fun hHeld => ?_)
      clear hK K
      (try simp only [List.setIfInBounds_toArray, List.set_cons_zero, List.set_cons_succ])
      replace k_c := bk bc k_c
      replace bw := bs bc bw
      (try replace r1 := (r1.below bc).more bc.size)
      clear bc
      refine wpAnyH_ready (rs := [3, 8]) (by kernel_rfl) (by simp) ?_
      refine (AllReadyH.cons rfl (fun K hK => ?_) (AllReadyH.cons rfl (fun K hK => ?_) AllReadyH.nil))
      · go_simp
        refine (toColor4 q.a q.b q.c q.d _).mono ?_
        rintro e X2 ⟨rfl, bc⟩
        refine hK.out _ _ ⟨ck bc hHeld.1, ck bc hHeld.2.1, ck bc hHeld.2.2.1, ck bc hHeld.2.2.2⟩ (fun hHeld => ?_)
        clear hK K
        (try simp only [List.setIfInBounds_toArray, List.set_cons_zero, List.set_cons_succ])
        replace k_c := bk bc k_c
        replace bw := bs bc bw
        (try replace r1 := (r1.below bc).more bc.size)
        clear bc
        refine wpAnyH_ready (rs := [4, 8]) (by kernel_rfl) (by simp) ?_
        refine (AllReadyH.cons rfl (fun K hK => ?_) (AllReadyH.cons rfl (fun K hK => ?_) AllReadyH.nil))
        · go_simp
          refine (palConv4 n cp1 A1 qs (q.a) (q.b) (q.c) (q.d) _ r1 h0).mono ?_
          rintro e X3 ⟨ii, x, rfl, hx0, hf0, bc⟩
          refine hK.out _ _ ⟨ck bc hHeld.1, ck bc hHeld.2.1, ck bc hHeld.2.2.1, ck bc hHeld.2.2.2⟩ (fun hHeld => ?_)
          clear hK K
          (try simp only [List.setIfInBounds_toArray, List.set_cons_zero, List.set_cons_succ])
          replace k_c := bk bc k_c
          replace bw := bs bc bw
          (try replace r1 := (r1.below bc).more bc.size)
          have Hx := Lib.hid hx0
          have Fii := Lib.hid hf0
          clear hx0 hf0
          clear bc
          refine takx (i := 5) (D := 8) (v := .tuple #[.agg #[.int .i64 (x.a % 256), .int .i64 (x.b % 256), .int .i64 (x.c % 256), .int .i64 (x.d % 256)], .bool true]) rfl rfl (by kernel_rfl) (by kernel_rfl) (by kernel_rfl) (fun _ _ _ h => h) (Or.inl ⟨by rfl, fun W hSw => by (try dsimp only at hSw); go_simp⟩) (by assumption) ?_
          (try simp only [List.setIfInBounds_toArray, List.set_cons_zero, List.set_cons_succ])
          refine takx (i := 6) (D := 14) (v := .agg #[.int .i64 (x.a % 256), .int .i64 (x.b % 256), .int .i64 (x.c % 256), .int .i64 (x.d % 256)]) rfl rfl (by kernel_rfl) (by kernel_rfl) (by kernel_rfl) (fun _ _ _ h => h) (Or.inl ⟨by rfl, fun W hSw => by (try dsimp only at hSw); go_simp⟩) (by assumption) ?_
          (try simp only [List.setIfInBounds_toArray, List.set_cons_zero, List.set_cons_succ])
          refine takx (i := 7) (D := 15) (v := .bool true) rfl rfl (by kernel_rfl) (by kernel_rfl) (by kernel_rfl) (fun _ _ _ h => h) (Or.inl ⟨by rfl, fun W hSw => by (try dsimp only at hSw); go_simp⟩) (by assumption) ?_
          (try simp only [List.setIfInBounds_toArray, List.set_cons_zero, List.set_cons_succ])
          refine wpAnyH_ready (rs := [8]) (by kernel_rfl) (by simp) ?_
          refine (AllReadyH.cons rfl (fun K hK => ?_) AllReadyH.nil)
          go_simp
          refine hK.out _ _ ⟨cka hHeld.1, cka hHeld.2.1, cka hHeld.2.2.1, cka hHeld.2.2.2⟩ (fun hHeld => ?_)
          clear hK K
          (try simp only [List.setIfInBounds_toArray, List.set_cons_zero, List.set_cons_succ])
          obtain ⟨X4, g4, eY, eg⟩ : ∃ Y g, Y = X3.alloc (.cells #[.int .i64 0, .int .i64 0, .int .i64 0, .int .i64 0] 25) ∧ g = X3.heap.size := ⟨_, _, rfl, rfl⟩
          rw [← eY, ← eg]
          rw [← eY] at hHeld
          have bc : Below X3.heap.size X3 X4 := by rw [eY]; exact (Below.refl _ _).alloc (Nat.le_refl _) _
          have k_n5 : X4.heap[g4]? = some (.cells #[.int .i64 0, .int .i64 0, .int .i64 0, .int .i64 0] 25 (0, 0)) := by rw [eY, eg]; exact heap_alloc_new X3 _
          have lo_n5 : w.heap.size ≤ g4 := by rw [eg]; exact bw.size
          have ne_c_n5 : ¬ w.heap.size = g4 := ne_new k_c eg
          replace k_c := bk bc k_c
          replace bw := bs bc bw
          (try replace r1 := (r1.below bc).more bc.size)
          clear bc eY eg
          refine wpAnyH_ready (rs := [9]) (by kernel_rfl) (by simp) ?_
          refine (AllReadyH.cons rfl (fun K hK => ?_) AllReadyH.nil)
          have qq := q4c k_n5
          go_simp
          clear qq
          refine hK.out _ _ ⟨(cks ne_c_n5 (cks ne_c_n5 (cks ne_c_n5 (cks ne_c_n5 hHeld.1)))), (cks ne_c_n5 (cks ne_c_n5 (cks ne_c_n5 (cks ne_c_n5 hHeld.2.1)))), (cks ne_c_n5 (cks ne_c_n5 (cks ne_c_n5 (cks ne_c_n5 hHeld.2.2.1)))), (cks ne_c_n5 (cks ne_c_n5 (cks ne_c_n5 (cks ne_c_n5 hHeld.2.2.2))))⟩ (fun hHeld => ?_)
          clear hK K
          (try simp only [List.setIfInBounds_toArray, List.set_cons_zero, List.set_cons_succ])
          obtain ⟨X5, eY⟩ : ∃ Y, Y = ((((X4.setCell ⟨g4, 0, none⟩ (.int .i64 (x.a % 256))).setCell ⟨g4, 1, none⟩ (.int .i64 (x.b % 256))).setCell ⟨g4, 2, none⟩ (.int .i64 (x.c % 256))).setCell ⟨g4, 3, none⟩ (.int .i64 (x.d % 256))) := ⟨_, rfl⟩
          rw [← eY] at hHeld ⊢
          replace k_c : X5.heap[w.heap.size]? = some (.cells #[.int .i64 q.a, .int .i64 q.b, .int .i64 q.c, .int .i64 q.d] 23 (0, 0)) := by rw [eY]; exact (bks ne_c_n5 (bks ne_c_n5 (bks ne_c_n5 (bks ne_c_n5 k_c))))
          replace bw : Below w.heap.size w X5 := by rw [eY]; exact (bss lo_n5 (bss lo_n5 (bss lo_n5 (bss lo_n5 bw))))
          replace k_n5 : X5.heap[g4]? = some (.cells #[.int .i64 (x.a % 256), .int .i64 (x.b % 256), .int .i64 (x.c % 256), .int .i64 (x.d % 256)] 25 (0, 0)) := by rw [eY]; exact q4s k_n5
          clear eY
          refine takx (i := 10) (D := 6) (v := .bool true) rfl rfl (by kernel_rfl) (by kernel_rfl) (by kernel_rfl) (fun _ _ _ h => h) (Or.inl ⟨by rfl, fun W hSw => by (try dsimp only at hSw); go_simp⟩) (by assumption) ?_
          (try simp only [List.setIfInBounds_toArray, List.set_cons_zero, List.set_cons_succ])
          refine wpAnyH_done (by kernel_rfl) ?_ _
          go_wp2_with fail
          go_meet
          exact ⟨_, ii, x, rfl, rfl, k_n5, k_c, Hx, Fii, bw⟩
        · go_simp
          refine hK.out _ _ ⟨cka hHeld.1, cka hHeld.2.1, cka hHeld.2.2.1, cka hHeld.2.2.2⟩ (fun hHeld => ?_)
          clear hK K
          (try simp only [List.setIfInBounds_toArray, List.set_cons_zero, List.set_cons_succ])
          obtain ⟨X6, g6, eY, eg⟩ : ∃ Y g, Y = X2.alloc (.cells #[.int .i64 0, .int .i64 0, .int .i64 0, .int .i64 0] 25) ∧ g = X2.heap.size := ⟨_, _, rfl, rfl⟩
          rw [← eY, ← eg]
          rw [← eY] at hHeld
          have bc : Below X2.heap.size X2 X6 := by rw [eY]; exact (Below.refl _ _).alloc (Nat.le_refl _) _
          have k_n5 : X6.heap[g6]? = some (.cells #[.int .i64 0, .int .i64 0, .int .i64 0, .int .i64 0] 25 (0, 0)) := by rw [eY, eg]; exact heap_alloc_new X2 _
          have lo_n5 : w.heap.size ≤ g6 := by rw [eg]; exact bw.size
          have ne_c_n5 : ¬ w.heap.size = g6 := ne_new k_c eg
          replace k_c := bk bc k_c
          replace bw := bs bc bw
          (try replace r1 := (r1.below bc).more bc.size)
          clear bc eY eg
          refine wpAnyH_ready (rs := [4]) (by kernel_rfl) (by simp) ?_
          refine (AllReadyH.cons rfl (fun K hK => ?_) AllReadyH.nil)
          go_simp
          refine (palConv4 n cp1 A1 qs (q.a) (q.b) (q.c) (q.d) _ r1 h0).mono ?_
          rintro e X7 ⟨ii, x, rfl, hx0, hf0, bc⟩
          refine hK.out _ _ ⟨ck bc hHeld.1, ck bc hHeld.2.1, ck bc hHeld.2.2.1, ck bc hHeld.2.2.2⟩ (fun hHeld => ?_)
          clear hK K
          (try simp only [List.setIfInBounds_toArray, List.set_cons_zero, List.set_cons_succ])
          replace k_c := bk bc k_c
          replace k_n5 := bk bc k_n5
          replace bw := bs bc bw
          (try replace r1 := (r1.below bc).more bc.size)
          have Hx := Lib.hid hx0
          have Fii := Lib.hid hf0
          clear hx0 hf0
          clear bc
          refine takx (i := 5) (D := 8) (v := .tuple #[.agg #[.int .i64 (x.a % 256), .int .i64 (x.b % 256), .int .i64 (x.c % 256), .int .i64 (x.d % 256)], .bool true]) rfl rfl (by kernel_rfl) (by kernel_rfl) (by kernel_rfl) (fun _ _ _ h => h) (Or.inl ⟨by rfl, fun W hSw => by (try dsimp only at hSw); go_simp⟩) (by assumption) ?_
          (try simp only [List.setIfInBounds_toArray, List.set_cons_zero, List.set_cons_succ])
          refine takx (i := 6) (D := 14) (v := .agg #[.int .i64 (x.a % 256), .int .i64 (x.b % 256), .int .i64 (x.c % 256), .int .i64 (x.d % 256)]) rfl rfl (by kernel_rfl) (by kernel_rfl) (by kernel_rfl) (fun _ _ _ h => h) (Or.inl ⟨by rfl, fun W hSw => by (try dsimp only at hSw); go_simp⟩) (by assumption) ?_
          (try simp only [List.setIfInBounds_toArray, List.set_cons_zero, List.set_cons_succ])
          refine takx (i := 7) (D := 15) (v := .bool true) rfl rfl (by kernel_rfl) (by kernel_rfl) (by kernel_rfl) (fun _ _ _ h => h) (Or.inl ⟨by rfl, fun W hSw => by (try dsimp only at hSw); go_simp⟩) (by assumption) ?_
          (try simp only [List.setIfInBounds_toArray, List.set_cons_zero, List.set_cons_succ])
          refine wpAnyH_ready (rs := [9]) (by kernel_rfl) (by simp) ?_
          refine (AllReadyH.cons rfl (fun K hK => ?_) AllReadyH.nil)
          have qq := q4c k_n5
          go_simp
          clear qq
          refine hK.out _ _ ⟨(cks ne_c_n5 (cks ne_c_n5 (cks ne_c_n5 (cks ne_c_n5 hHeld.1)))), (cks ne_c_n5 (cks ne_c_n5 (cks ne_c_n5 (cks ne_c_n5 hHeld.2.1)))), (cks ne_c_n5 (cks ne_c_n5 (cks ne_c_n5 (cks ne_c_n5 hHeld.2.2.1)))), (cks ne_c_n5 (cks ne_c_n5 (cks ne_c_n5 (cks ne_c_n5 hHeld.2.2.2))))⟩ (fun hHeld => ?_)
          clear hK K
          (try simp only [List.setIfInBounds_toArray, List.set_cons_zero, List.set_cons_succ])
          obtain ⟨X8, eY⟩ : ∃ Y, Y = ((((X7.setCell ⟨g6, 0, none⟩ (.int .i64 (x.a % 256))).setCell ⟨g6, 1, none⟩ (.int .i64 (x.b % 256))).setCell ⟨g6, 2, none⟩ (.int .i64 (x.c % 256))).setCell ⟨g6, 3, none⟩ (.int .i64 (x.d % 256))) := ⟨_, rfl⟩
          rw [← eY] at hHeld ⊢
          replace k_c : X8.heap[w.heap.size]? = some (.cells #[.int .i64 q.a, .int .i64 q.b, .int .i64 q.c, .int .i64 q.d] 23 (0, 0)) := by rw [eY]; exact (bks ne_c_n5 (bks ne_c_n5 (bks ne_c_n5 (bks ne_c_n5 k_c))))
          replace bw : Below w.heap.size w X8 := by rw [eY]; exact (bss lo_n5 (bss lo_n5 (bss lo_n5 (bss lo_n5 bw))))
          replace k_n5 : X8.heap[g6]? = some (.cells #[.int .i64 (x.a % 256), .int .i64 (x.b % 256), .int .i64 (x.c % 256), .int .i64 (x.d % 256)] 25 (0, 0)) := by rw [eY]; exact q4s k_n5
          clear eY
          refine takx (i := 10) (D := 6) (v := .bool true) rfl rfl (by kernel_rfl) (by kernel_rfl) (by kernel_rfl) (fun _ _ _ h => h) (Or.inl ⟨by rfl, fun W hSw => by (try dsimp only at hSw); go_simp⟩) (by assumption) ?_
          (try simp only [List.setIfInBounds_toArray, List.set_cons_zero, List.set_cons_succ])
          refine wpAnyH_done (by kernel_rfl) ?_ _
          go_wp2_with fail
          go_meet
          exact ⟨_, ii, x, rfl, rfl, k_n5, k_c, Hx, Fii, bw⟩
      · go_simp
        refine hK.out _ _ ⟨cka hHeld.1, cka hHeld.2.1, cka hHeld.2.2.1, cka hHeld.2.2.2⟩ (fun hHeld => ?_)
        clear hK K
        (try simp only [List.setIfInBounds_toArray, List.set_cons_zero, List.set_cons_succ])
        obtain ⟨X9, g9, eY, eg⟩ : ∃ Y g, Y = X1.alloc (.cells #[.int .i64 0, .int .i64 0, .int .i64 0, .int .i64 0] 25) ∧ g = X1.heap.size := ⟨_, _, rfl, rfl⟩
        rw [← eY, ← eg]
        rw [← eY] at hHeld
        have bc : Below X1.heap.size X1 X9 := by rw [eY]; exact (Below.refl _ _).alloc (Nat.le_refl _) _
        have k_n5 : X9.heap[g9]? = some (.cells #[.int .i64 0, .int .i64 0, .int .i64 0, .int .i64 0] 25 (0, 0)) := by rw [eY, eg]; exact heap_alloc_new X1 _
        have lo_n5 : w.heap.size ≤ g9 := by rw [eg]; exact bw.size
        have ne_c_n5 : ¬ w.heap.size = g9 := ne_new k_c eg
        replace k_c := bk bc k_c
        replace bw := bs bc bw
        (try replace r1 := (r1.below bc).more bc.size)
        clear bc eY eg
        refine wpAnyH_ready (rs := [3]) (by kernel_rfl) (by simp) ?_
        refine (AllReadyH.cons rfl (fun K hK => ?_) AllReadyH.nil)
        go_simp
        refine (toColor4 q.a q.b q.c q.d _).mono ?_
        rintro e X10 ⟨rfl, bc⟩
        refine hK.out _ _ ⟨ck bc hHeld.1, ck bc hHeld.2.1, ck bc hHeld.2.2.1, ck bc hHeld.2.2.2⟩ (fun hHeld => ?_)
        clear hK K
        (try simp only [List.setIfInBounds_toArray, List.set_cons_zero, List.set_cons_succ])
        replace k_c := bk bc k_c
        replace k_n5 := bk bc k_n5
        replace bw := bs bc bw
        (try replace r1 := (r1.below bc).more bc.size)
        clear bc
        refine wpAnyH_ready (rs := [4]) (by kernel_rfl) (by simp) ?_
        refine (AllReadyH.cons rfl (fun K hK => ?_) AllReadyH.nil)
        go_simp
        refine (palConv4 n cp1 A1 qs (q.a) (q.b) (q.c) (q.d) _ r1 h0).mono ?_
        rintro e X11 ⟨ii, x, rfl, hx0, hf0, bc⟩
        refine hK.out _ _ ⟨ck bc hHeld.1, ck bc hHeld.2.1, ck bc hHeld.2.2.1, ck bc hHeld.2.2.2⟩ (fun hHeld => ?_)
        clear hK K
        (try simp only [List.setIfInBounds_toArray, List.set_cons_zero, List.set_cons_succ])
        replace k_c := bk bc k_c
        replace k_n5 := bk bc k_n5
        replace bw := bs bc bw
        (try replace r1 := (r1.below bc).more bc.size)
        have Hx := Lib.hid hx0
        have Fii := Lib.hid hf0
        clear hx0 hf0
        clear bc
        refine takx (i := 5) (D := 8) (v := .tuple #[.agg #[.int .i64 (x.a % 256), .int .i64 (x.b % 256), .int .i64 (x.c % 256), .int .i64 (x.d % 256)], .bool true]) rfl rfl (by kernel_rfl) (by kernel_rfl) (by kernel_rfl) (fun _ _ _ h => h) (Or.inl ⟨by rfl, fun W hSw => by (try dsimp only at hSw); go_simp⟩) (by assumption) ?_
        (try simp only [List.setIfInBounds_toArray, List.set_cons_zero, List.set_cons_succ])
        refine takx (i := 6) (D := 14) (v := .agg #[.int .i64 (x.a % 256), .int .i64 (x.b % 256), .int .i64 (x.c % 256), .int .i64 (x.d % 256)]) rfl rfl (by kernel_rfl) (by kernel_rfl) (by kernel_rfl) (fun _ _ _ h => h) (Or.inl ⟨by rfl, fun W hSw => by (try dsimp only at hSw); go_simp⟩) (by assumption) ?_
        (try simp only [List.setIfInBounds_toArray, List.set_cons_zero, List.set_cons_succ])
        refine takx (i := 7) (D := 15) (v := .bool true) rfl rfl (by kernel_rfl) (by kernel_rfl) (by kernel_rfl) (fun _ _ _ h => h) (Or.inl ⟨by rfl, fun W hSw => by (try dsimp only at hSw); go_simp⟩) (by assumption) ?_
        (try simp only [List.setIfInBounds_toArray, List.set_cons_zero, List.set_cons_succ])
        refine wpAnyH_ready (rs := [9]) (by kernel_rfl) (by simp) ?_
        refine (AllReadyH.cons rfl (fun K hK => ?_) AllReadyH.nil)
        have qq := q4c k_n5
        go_simp
        clear qq
        refine hK.out _ _ ⟨(cks ne_c_n5 (cks ne_c_n5 (cks ne_c_n5 (cks ne_c_n5 hHeld.1)))), (cks ne_c_n5 (cks ne_c_n5 (cks ne_c_n5 (cks ne_c_n5 hHeld.2.1)))), (cks ne_c_n5 (cks ne_c_n5 (cks ne_c_n5 (cks ne_c_n5 hHeld.2.2.1)))), (cks ne_c_n5 (cks ne_c_n5 (cks ne_c_n5 (cks ne_c_n5 hHeld.2.2.2))))⟩ (fun hHeld => ?_)
        clear hK K
        (try simp only [List.setIfInBounds_toArray, List.set_cons_zero, List.set_cons_succ])
        obtain ⟨X12, eY⟩ : ∃ Y, Y = ((((X11.setCell ⟨g9, 0, none⟩ (.int .i64 (x.a % 256))).setCell ⟨g9, 1, none⟩ (.int .i64 (x.b % 256))).setCell ⟨g9, 2, none⟩ (.int .i64 (x.c % 256))).setCell ⟨g9, 3, none⟩ (.int .i64 (x.d % 256))) := ⟨_, rfl⟩
        rw [← eY] at hHeld ⊢
        replace k_c : X12.heap[w.heap.size]? = some (.cells #[.int .i64 q.a, .int .i64 q.b, .int .i64 q.c, .int .i64 q.d] 23 (0, 0)) := by rw [eY]; exact (bks ne_c_n5 (bks ne_c_n5 (bks ne_c_n5 (bks ne_c_n5 k_c))))
        replace bw : Below w.heap.size w X12 := by rw [eY]; exact (bss lo_n5 (bss lo_n5 (bss lo_n5 (bss lo_n5 bw))))
        replace k_n5 : X12.heap[g9]? = some (.cells #[.int .i64 (x.a % 256), .int .i64 (x.b % 256), .int .i64 (x.c % 256), .int .i64 (x.d % 256)] 25 (0, 0)) := by rw [eY]; exact q4s k_n5
        clear eY
        refine takx (i := 10) (D := 6) (v := .bool true) rfl rfl (by kernel_rfl) (by kernel_rfl) (by kernel_rfl) (fun _ _ _ h => h) (Or.inl ⟨by rfl, fun W hSw => by (try dsimp only at hSw); go_simp⟩) (by assumption) ?_
        (try simp only [List.setIfInBounds_toArray, List.set_cons_zero, List.set_cons_succ])
        refine wpAnyH_done (by kernel_rfl) ?_ _
        go_wp2_with fail
        go_meet
        exact ⟨_, ii, x, rfl, rfl, k_n5, k_c, Hx, Fii, bw⟩
    · go_simp
      refine hK.out _ _ ⟨cka hHeld.1, cka hHeld.2.1, cka hHeld.2.2.1, cka hHeld.2.2.2⟩ (fun hHeld => ?_)
      clear hK K
      (try simp only [List.setIfInBounds_toArray, List.set_cons_zero, List.set_cons_succ])
      obtain ⟨X13, g13, eY, eg⟩ : ∃ Y g, Y = X0.alloc (.cells #[.int .i64 0, .int .i64 0, .int .i64 0, .int .i64 0] 25) ∧ g = X0.heap.size := ⟨_, _, rfl, rfl⟩
      rw [← eY, ← eg]
      rw [← eY] at hHeld
      have bc : Below X0.heap.size X0 X13 := by rw [eY]; exact (Below.refl _ _).alloc (Nat.le_refl _) _
      have k_n5 : X13.heap[g13]? = some (.cells #[.int .i64 0, .int .i64 0, .int .i64 0, .int .i64 0] 25 (0, 0)) := by rw [eY, eg]; exact heap_alloc_new X0 _
      have lo_n5 : w.heap.size ≤ g13 := by rw [eg]; exact bw.size
      have ne_c_n5 : ¬ w.heap.size = g13 := ne_new k_c eg
      replace k_c := bk bc k_c
      replace bw := bs bc bw
      (try replace r1 := (r1.below bc).more bc.size)
      clear bc eY eg
      refine wpAnyH_ready (rs := [1]) (by kernel_rfl) (by simp) ?_
      refine (AllReadyH.cons rfl (fun K hK => ?_) AllReadyH.nil)
      go_simp
      refine (toColors_any n cp (some ⟨b, off, none⟩) qs _ ((HR.out.below bw).more bw.size)).mono ?_
      rintro e X14 ⟨A1, cp1, rfl, r1, lo1, bc⟩
      refine hK.out _ _ ⟨ck bc hHeld.1, ck bc hHeld.2.1, ck bc hHeld.2.2.1, ck bc hHeld.2.2.2⟩ (fun hHeld => ?_)
      clear hK K
      (try simp only [List.setIfInBounds_toArray, List.set_cons_zero, List.set_cons_succ])
      replace k_c := bk bc k_c
      replace k_n5 := bk bc k_n5
      replace bw := bs bc bw
      (try replace r1 := (r1.below bc).more bc.size)
      clear bc
      refine wpAnyH_ready (rs := [3]) (by kernel_rfl) (by simp) ?_
      refine (AllReadyH.cons rfl (fun K hK => ?_) AllReadyH.nil)
      go_simp
      refine (toColor4 q.a q.b q.c q.d _).mono ?_
      rintro e X15 ⟨rfl, bc⟩
      refine hK.out _ _ ⟨ck bc hHeld.1, ck bc hHeld.2.1, ck bc hHeld.2.2.1, ck bc hHeld.2.2.2⟩ (fun hHeld => ?_)
      clear hK K
      (try simp only [List.setIfInBounds_toArray, List.set_cons_zero, List.set_cons_succ])
      replace k_c := bk bc k_c
      replace k_n5 := bk bc k_n5
      replace bw := bs bc bw
      (try replace r1 := (r1.below bc).more bc.size)
      clear bc
      refine wpAnyH_ready (rs := [4]) (by kernel_rfl) (by simp) ?_
      refine (AllReadyH.cons rfl (fun K hK => ?_) AllReadyH.nil)
      go_simp
      refine (palConv4 n cp1 A1 qs (q.a) (q.b) (q.c) (q.d) _ r1 h0).mono ?_
      rintro e X16 ⟨ii, x, rfl, hx0, hf0, bc⟩
      refine hK.out _ _ ⟨ck bc hHeld.1, ck bc hHeld.2.1, ck bc hHeld.2.2.1, ck bc hHeld.2.2.2⟩ (fun hHeld => ?_)
      clear hK K
      (try simp only [List.setIfInBounds_toArray, List.set_cons_zero, List.set_cons_succ])
      replace k_c := bk bc k_c
      replace k_n5 := bk bc k_n5
      replace bw := bs bc bw
      (try replace r1 := (r1.below bc).more bc.size)
      have Hx := Lib.hid hx0
      have Fii := Lib.hid hf0
      clear hx0 hf0
      clear bc
      refine takx (i := 5) (D := 8) (v := .tuple #[.agg #[.int .i64 (x.a % 256), .int .i64 (x.b % 256), .int .i64 (x.c % 256), .int .i64 (x.d % 256)], .bool true]) rfl rfl (by kernel_rfl) (by kernel_rfl) (by kernel_rfl) (fun _ _ _ h => h) (Or.inl ⟨by rfl, fun W hSw => by (try dsimp only at hSw); go_simp⟩) (by assumption) ?_
      (try simp only [List.setIfInBounds_toArray, List.set_cons_zero, List.set_cons_succ])
      refine takx (i := 6) (D := 14) (v := .agg #[.int .i64 (x.a % 256), .int .i64 (x.b % 256), .int .i64 (x.c % 256), .int .i64 (x.d % 256)]) rfl rfl (by kernel_rfl) (by kernel_rfl) (by kernel_rfl) (fun _ _ _ h => h) (Or.inl ⟨by rfl, fun W hSw => by (try dsimp only at hSw); go_simp⟩) (by assumption) ?_
      (try simp only [List.setIfInBounds_toArray, List.set_cons_zero, List.set_cons_succ])
      refine takx (i := 7) (D := 15) (v := .bool true) rfl rfl (by kernel_rfl) (by kernel_rfl) (by kernel_rfl) (fun _ _ _ h => h) (Or.inl ⟨by rfl, fun W hSw => by (try dsimp only at hSw); go_simp⟩) (by assumption) ?_
      (try simp only [List.setIfInBounds_toArray, List.set_cons_zero, List.set_cons_succ])
      refine wpAnyH_ready (rs := [9]) (by kernel_rfl) (by simp) ?_
      refine (AllReadyH.cons rfl (fun K hK => ?_) AllReadyH.nil)
      have qq := q4c k_n5
      go_simp
      clear qq
      refine hK.out _ _ ⟨(cks ne_c_n5 (cks ne_c_n5 (cks ne_c_n5 (cks ne_c_n5 hHeld.1)))), (cks ne_c_n5 (cks ne_c_n5 (cks ne_c_n5 (cks ne_c_n5 hHeld.2.1)))), (cks ne_c_n5 (cks ne_c_n5 (cks ne_c_n5 (cks ne_c_n5 hHeld.2.2.1)))), (cks ne_c_n5 (cks ne_c_n5 (cks ne_c_n5 (cks ne_c_n5 hHeld.2.2.2))))⟩ (fun hHeld => ?_)
      clear hK K
      (try simp only [List.setIfInBounds_toArray, List.set_cons_zero, List.set_cons_succ])
      obtain ⟨X17, eY⟩ : ∃ Y, Y = ((((X16.setCell ⟨g13, 0, none⟩ (.int .i64 (x.a % 256))).setCell ⟨g13, 1, none⟩ (.int .i64 (x.b % 256))).setCell ⟨g13, 2, none⟩ (.int .i64 (x.c % 256))).setCell ⟨g13, 3, none⟩ (.int .i64 (x.d % 256))) := ⟨_, rfl⟩
      rw [← eY] at hHeld ⊢
      replace k_c : X17.heap[w.heap.size]? = some (.cells #[.int .i64 q.a, .int .i64 q.b, .int .i64 q.c, .int .i64 q.d] 23 (0, 0)) := by rw [eY]; exact (bks ne_c_n5 (bks ne_c_n5 (bks ne_c_n5 (bks ne_c_n5 k_c))))
      replace bw : Below w.heap.size w X17 := by rw [eY]; exact (bss lo_n5 (bss lo_n5 (bss lo_n5 (bss lo_n5 bw))))
      replace k_n5 : X17.heap[g13]? = some (.cells #[.int .i64 (x.a % 256), .int .i64 (x.b % 256), .int .i64 (x.c % 256), .int .i64 (x.d % 256)] 25 (0, 0)) := by rw [eY]; exact q4s k_n5
      clear eY
      refine takx (i := 10) (D := 6) (v := .bool true) rfl rfl (by kernel_rfl) (by kernel_rfl) (by kernel_rfl) (fun _ _ _ h => h) (Or.inl ⟨by rfl, fun W hSw => by (try dsimp only at hSw); go_simp⟩) (by assumption) ?_
      (try simp only [List.setIfInBounds_toArray, List.set_cons_zero, List.set_cons_succ])
      refine wpAnyH_done (by kernel_rfl) ?_ _
      go_wp2_with fail
      go_meet
      exact ⟨_, ii, x, rfl, rfl, k_n5, k_c, Hx, Fii, bw⟩
  case rest =>
    clear k_c bw
    obtain ⟨g, ii, x, rfl, rfl, k_x, k_c, Hx, Fii, BW⟩ := hcut
    have bw := BW.out
    go_upto_region 4 with fail
    refine wp_region_held_drew (S := fun w' => w'.cell? ⟨w.heap.size, 0, none⟩ = some (.int .i64 q.a) ∧ w'.cell? ⟨w.heap.size, 1, none⟩ = some (.int .i64 q.b) ∧ w'.cell? ⟨w.heap.size, 2, none⟩ = some (.int .i64 q.c) ∧ w'.cell? ⟨w.heap.size, 3, none⟩ = some (.int .i64 q.d)) (by kernel_rfl) ⟨(q4c k_c).1.1, (q4c k_c).1.2.1, (q4c k_c).1.2.2.1, (q4c k_c).1.2.2.2⟩ ?_
    intro hHeld
    obtain ⟨X0, eX, bc⟩ : ∃ X, X = wc.drew ∧ Below wc.heap.size wc X := ⟨_, rfl, (Below.refl _ _).drew⟩
    rw [← eX] at hHeld ⊢
    replace k_c := bk bc k_c
    replace k_x := bk bc k_x
    replace bw := bs bc bw
    (try replace r1 := (r1.below bc).more bc.size)
    clear eX bc
    refine takx (i := 0) (D := 34) (v := .slice (some ⟨b, off, none⟩) n cp) rfl rfl (by kernel_rfl) (by kernel_rfl) (by kernel_rfl) (fun _ _ _ h => h) (Or.inl ⟨by rfl, fun W hSw => by (try dsimp only at hSw); go_simp⟩) (by assumption) ?_
    (try simp only [List.setIfInBounds_toArray, List.set_cons_zero, List.set_cons_succ])
    refine takx (i := 2) (D := 36) (v := .agg #[.int .i64 q.a, .int .i64 q.b, .int .i64 q.c, .int .i64 q.d]) rfl rfl (by kernel_rfl) (by kernel_rfl) (by kernel_rfl) (fun _ _ _ h => h) (Or.inl ⟨by rfl, fun W hSw => by (try dsimp only at hSw); go_simp⟩) (by assumption) ?_
    (try simp only [List.setIfInBounds_toArray, List.set_cons_zero, List.set_cons_succ])
    refine wpAnyH_ready (rs := [1]) (by kernel_rfl) (by simp) ?_
    refine (AllReadyH.cons rfl (fun K hK => ?_) AllReadyH.nil)
    go_simp
    refine (toColors_any n cp (some ⟨b, off, none⟩) qs _ ((HR.out.below bw).more bw.size)).mono ?_
    rintro e X1 ⟨A1, cp1, rfl, r1, lo1, bc⟩
    refine hK.out _ _ ⟨ck bc hHeld.1, ck bc hHeld.2.1, ck bc hHeld.2.2.1, ck bc hHeld.2.2.2⟩ (fun hHeld => ?_)
    clear hK K
    (try simp only [List.setIfInBounds_toArray, List.set_cons_zero, List.set_cons_succ])
    replace k_c := bk bc k_c
    replace k_x := bk bc k_x
    replace bw := bs bc bw
    (try replace r1 := (r1.below bc).more bc.size)
    clear bc
    refine wpAnyH_ready (rs := [3]) (by kernel_rfl) (by simp) ?_
    refine (AllReadyH.cons rfl (fun K hK => ?_) AllReadyH.nil)
    go_simp
    refine (toColor4 q.a q.b q.c q.d _).mono ?_
    rintro e X2 ⟨rfl, bc⟩
    refine hK.out _ _ ⟨ck bc hHeld.1, ck bc hHeld.2.1, ck bc hHeld.2.2.1, ck bc hHeld.2.2.2⟩ (fun hHeld => ?_)
    clear hK K
    (try simp only [List.setIfInBounds_toArray, List.set_cons_zero, List.set_cons_succ])
    replace k_c := bk bc k_c
    replace k_x := bk bc k_x
    replace bw := bs bc bw
    (try replace r1 := (r1.below bc).more bc.size)
    clear bc
    refine wpAnyH_ready (rs := [4]) (by kernel_rfl) (by simp) ?_
    refine (AllReadyH.cons rfl (fun K hK => ?_) AllReadyH.nil)
    go_simp
    refine (palIndex4 n cp1 A1 qs (q.a) (q.b) (q.c) (q.d) _ r1).mono ?_
    rintro e X3 ⟨i, rfl, hf0, bc⟩
    refine hK.out _ _ ⟨ck bc hHeld.1, ck bc hHeld.2.1, ck bc hHeld.2.2.1, ck bc hHeld.2.2.2⟩ (fun hHeld => ?_)
    clear hK K
    (try simp only [List.setIfInBounds_toArray, List.set_cons_zero, List.set_cons_succ])
    replace k_c := bk bc k_c
    replace k_x := bk bc k_x
    replace bw := bs bc bw
    (try replace r1 := (r1.below bc).more bc.size)
    have Fi := Lib.hid hf0
    clear hf0
    clear bc
    refine takx (i := 5) (D := 7) (v := .int .i64 i) rfl rfl (by kernel_rfl) (by kernel_rfl) (by kernel_rfl) (fun _ _ _ h => h) (Or.inl ⟨by rfl, fun W hSw => by (try dsimp only at hSw); go_simp⟩) (by assumption) ?_
    (try simp only [List.setIfInBounds_toArray, List.set_cons_zero, List.set_cons_succ])
    refine wpAnyH_done (by kernel_rfl) ?_ _
    obtain rfl : ii = i := Fii.out.unique Fi.out
    have hi : ii < n := by have := Fi.out.lt (by rw [List.length_map, HR.out.1]; exact h0); rwa [List.length_map, HR.out.1] at this
    clear hHeld r1
    obtain ⟨W2, eW⟩ : ∃ W, W = X3 := ⟨_, rfl⟩
    rw [← eW] at bw k_c k_x ⊢
    clear eW
    obtain ⟨e1, e2, e3, e4⟩ := (HR.out.below bw).at hi
    rw [← Hx.out] at e1 e2 e3 e4
    have HK := Lib.hid (HR.out.2.2.1 _ (getD_mem qs ii (by rw [HR.out.1]; exact hi)))
    rw [← Hx.out] at HK
    have i1 : (ii : Int) < (n : Int) := by omega
    have i0 : (0 : Int) ≤ (ii : Int) := by omega
    go_upto_region 5 with fail
    refine wp_region_held_drew (S := fun w' => w'.cell? ⟨g, 0, none⟩ = some (.int .i64 (x.a % 256)) ∧ w'.cell? ⟨g, 1, none⟩ = some (.int .i64 (x.b % 256)) ∧ w'.cell? ⟨g, 2, none⟩ = some (.int .i64 (x.c % 256)) ∧ w'.cell? ⟨g, 3, none⟩ = some (.int .i64 (x.d % 256)) ∧ w'.cell? ⟨b, off + ii * 4, none⟩ = some (.int .i64 x.a) ∧ w'.cell? ⟨b, off + ii * 4 + 1, none⟩ = some (.int .i64 x.b) ∧ w'.cell? ⟨b, off + ii * 4 + 2, none⟩ = some (.int .i64 x.c) ∧ w'.cell? ⟨b, off + ii * 4 + 3, none⟩ = some (.int .i64 x.d)) (by kernel_rfl) ⟨(q4c k_x).1.1, (q4c k_x).1.2.1, (q4c k_x).1.2.2.1, (q4c k_x).1.2.2.2, (by assumption), (by assumption), (by assumption), (by assumption)⟩ ?_
    intro hHeld
    obtain ⟨X0, eX, bc⟩ : ∃ X, X = W2.drew ∧ Below W2.heap.size W2 X := ⟨_, rfl, (Below.refl _ _).drew⟩
    rw [← eX] at hHeld ⊢
    replace k_c := bk bc k_c
    replace k_x := bk bc k_x
    replace bw := bs bc bw
    clear eX bc
    refine takx (i := 0) (D := 39) (v := .bool true) rfl rfl (by kernel_rfl) (by kernel_rfl) (by kernel_rfl) (fun _ _ _ h => h) (Or.inl ⟨by rfl, fun W hSw => by (try dsimp only at hSw); go_simp⟩) (by assumption) ?_
    (try simp only [List.setIfInBounds_toArray, List.set_cons_zero, List.set_cons_succ])
    refine takx (i := 1) (D := 40) (v := .bool true) rfl rfl (by kernel_rfl) (by kernel_rfl) (by kernel_rfl) (fun _ _ _ h => h) (Or.inl ⟨by rfl, fun W hSw => by (try dsimp only at hSw); go_simp⟩) (by assumption) ?_
    (try simp only [List.setIfInBounds_toArray, List.set_cons_zero, List.set_cons_succ])
    refine takx (i := 2) (D := 41) (v := .int .i64 ii) rfl rfl (by kernel_rfl) (by kernel_rfl) (by kernel_rfl) (fun _ _ _ h => h) (Or.inl ⟨by rfl, fun W hSw => by (try dsimp only at hSw); go_simp⟩) (by assumption) ?_
    (try simp only [List.setIfInBounds_toArray, List.set_cons_zero, List.set_cons_succ])
    refine takx (i := 3) (D := 42) (v := .bool true) rfl rfl (by kernel_rfl) (by kernel_rfl) (by kernel_rfl) (fun _ _ _ h => h) (Or.inl ⟨by rfl, fun W hSw => by (try dsimp only at hSw); go_simp⟩) (by assumption) ?_
    (try simp only [List.setIfInBounds_toArray, List.set_cons_zero, List.set_cons_succ])
    refine takx (i := 4) (D := 43) (v := .bool true) rfl rfl (by kernel_rfl) (by kernel_rfl) (by kernel_rfl) (fun _ _ _ h => h) (Or.inl ⟨by rfl, fun W hSw => by (try dsimp only at hSw); go_simp⟩) (by assumption) ?_
    (try simp only [List.setIfInBounds_toArray, List.set_cons_zero, List.set_cons_succ])
    refine takx (i := 5) (D := 44) (v := .bool true) rfl rfl (by kernel_rfl) (by kernel_rfl) (by kernel_rfl) (fun _ _ _ h => h) (Or.inl ⟨by rfl, fun W hSw => by (try dsimp only at hSw); go_simp⟩) (by assumption) ?_
    (try simp only [List.setIfInBounds_toArray, List.set_cons_zero, List.set_cons_succ])
    refine takx (i := 6) (D := 45) (v := .int .i64 ii) rfl rfl (by kernel_rfl) (by kernel_rfl) (by kernel_rfl) (fun _ _ _ h => h) (Or.inl ⟨by rfl, fun W hSw => by (try dsimp only at hSw); go_simp⟩) (by assumption) ?_
    (try simp only [List.setIfInBounds_toArray, List.set_cons_zero, List.set_cons_succ])
    refine takx (i := 7) (D := 46) (v := .slice (some ⟨b, off, none⟩) n cp) rfl rfl (by kernel_rfl) (by kernel_rfl) (by kernel_rfl) (fun _ _ _ h => h) (Or.inl ⟨by rfl, fun W hSw => by (try dsimp only at hSw); go_simp⟩) (by assumption) ?_
    (try simp only [List.setIfInBounds_toArray, List.set_cons_zero, List.set_cons_succ])
    refine takx (i := 8) (D := 47) (v := .int .i64 n) rfl rfl (by kernel_rfl) (by kernel_rfl) (by kernel_rfl) (fun _ _ _ h => h) (Or.inl ⟨by rfl, fun W hSw => by (try dsimp only at hSw); go_simp⟩) (by assumption) ?_
    (try simp only [List.setIfInBounds_toArray, List.set_cons_zero, List.set_cons_succ])
    refine takx (i := 9) (D := 48) (v := .bool true) rfl rfl (by kernel_rfl) (by kernel_rfl) (by kernel_rfl) (fun _ _ _ h => h) (Or.inl ⟨by rfl, fun W hSw => by (try dsimp only at hSw); go_simp⟩) (by assumption) ?_
    (try simp only [List.setIfInBounds_toArray, List.set_cons_zero, List.set_cons_succ])
    refine takx (i := 10) (D := 49) (v := .bool true) rfl rfl (by kernel_rfl) (by kernel_rfl) (by kernel_rfl) (fun _ _ _ h => h) (Or.inl ⟨by rfl, fun W hSw => by (try dsimp only at hSw); go_simp⟩) (by assumption) ?_
    (try simp only [List.setIfInBounds_toArray, List.set_cons_zero, List.set_cons_succ])
    refine takx (i := 11) (D := 50) (v := .bool true) rfl rfl (by kernel_rfl) (by kernel_rfl) (by kernel_rfl) (fun _ _ _ h => h) (Or.inl ⟨by rfl, fun W hSw => by (try dsimp only at hSw); go_simp⟩) (by assumption) ?_
    (try simp only [List.setIfInBounds_toArray, List.set_cons_zero, List.set_cons_succ])
    refine takx (i := 12) (D := 51) (v := .agg #[.int .i64 (x.a % 256), .int .i64 (x.b % 256), .int .i64 (x.c % 256), .int .i64 (x.d % 256)]) rfl rfl (by kernel_rfl) (by kernel_rfl) (by kernel_rfl) (fun _ _ _ h => h) (Or.inl ⟨by rfl, fun W hSw => by (try dsimp only at hSw); go_simp⟩) (by assumption) ?_
    (try simp only [List.setIfInBounds_toArray, List.set_cons_zero, List.set_cons_succ])
    refine takx (i := 13) (D := 52) (v := .slice (some ⟨b, off, none⟩) n cp) rfl rfl (by kernel_rfl) (by kernel_rfl) (by kernel_rfl) (fun _ _ _ h => h) (Or.inl ⟨by rfl, fun W hSw => by (try dsimp only at hSw); go_simp⟩) (by assumption) ?_
    (try simp only [List.setIfInBounds_toArray, List.set_cons_zero, List.set_cons_succ])
    refine takx (i := 14) (D := 53) (v := .int .i64 ii) rfl rfl (by kernel_rfl) (by kernel_rfl) (by kernel_rfl) (fun _ _ _ h => h) (Or.inl ⟨by rfl, fun W hSw => by (try dsimp only at hSw); go_simp⟩) (by assumption) ?_
    (try simp only [List.setIfInBounds_toArray, List.set_cons_zero, List.set_cons_succ])
    refine takx (i := 15) (D := 54) (v := .pointer (some ⟨b, off + ii * 4, none⟩)) rfl rfl (by kernel_rfl) (by kernel_rfl) (by kernel_rfl) (fun _ _ _ h => h) (Or.inl ⟨by rfl, fun W hSw => by (try dsimp only at hSw); go_simp⟩) (by assumption) ?_
    (try simp only [List.setIfInBounds_toArray, List.set_cons_zero, List.set_cons_succ])
    refine takx (i := 16) (D := 55) (v := .agg #[.int .i64 x.a, .int .i64 x.b, .int .i64 x.c, .int .i64 x.d]) rfl rfl (by kernel_rfl) (by kernel_rfl) (by kernel_rfl) (fun _ _ _ h => h) (Or.inl ⟨by rfl, fun W hSw => by (try dsimp only at hSw); go_simp⟩) (by assumption) ?_
    (try simp only [List.setIfInBounds_toArray, List.set_cons_zero, List.set_cons_succ])
    refine wpAnyH_ready (rs := [17]) (by kernel_rfl) (by simp) ?_
    refine (AllReadyH.cons rfl (fun K hK => ?_) AllReadyH.nil)
    go_simp
    refine (lowColor4 x HK.out _).mono ?_
    rintro e X1 ⟨rfl, bc⟩
    refine hK.out _ _ ⟨ck bc hHeld.1, ck bc hHeld.2.1, ck bc hHeld.2.2.1, ck bc hHeld.2.2.2.1, ck bc hHeld.2.2.2.2.1, ck bc hHeld.2.2.2.2.2.1, ck bc hHeld.2.2.2.2.2.2.1, ck bc hHeld.2.2.2.2.2.2.2⟩ (fun hHeld => ?_)
    clear hK K
    (try simp only [List.setIfInBounds_toArray, List.set_cons_zero, List.set_cons_succ])
    replace k_c := bk bc k_c
    replace k_x := bk bc k_x
    replace bw := bs bc bw
    clear bc
    refine takx (i := 18) (D := 57) (v := .bool true) rfl rfl (by kernel_rfl) (by kernel_rfl) (by kernel_rfl) (fun _ _ _ h => h) (Or.inl ⟨by rfl, fun W hSw => by (try dsimp only at hSw); go_simp⟩) (by assumption) ?_
    (try simp only [List.setIfInBounds_toArray, List.set_cons_zero, List.set_cons_succ])
    refine takx (i := 19) (D := 58) (v := .bool true) rfl rfl (by kernel_rfl) (by kernel_rfl) (by kernel_rfl) (fun _ _ _ h => h) (Or.inl ⟨by rfl, fun W hSw => by (try dsimp only at hSw); go_simp⟩) (by assumption) ?_
    (try simp only [List.setIfInBounds_toArray, List.set_cons_zero, List.set_cons_succ])
    refine takx (i := 20) (D := 4) (v := .bool true) rfl rfl (by kernel_rfl) (by kernel_rfl) (by kernel_rfl) (fun _ _ _ h => h) (Or.inl ⟨by rfl, fun W hSw => by (try dsimp only at hSw); go_simp⟩) (by assumption) ?_
    (try simp only [List.setIfInBounds_toArray, List.set_cons_zero, List.set_cons_succ])
    refine wpAnyH_done (by kernel_rfl) ?_ _
    go_wp2_with fail
    go_ret
    exact ⟨rfl, bw⟩

end Go.Proofs.Ytbhccckfooobcaa

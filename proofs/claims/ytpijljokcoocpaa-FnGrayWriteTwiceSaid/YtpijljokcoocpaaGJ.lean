/-
  The walk of the law FnGrayWriteTwice. No condition.
-/
import Derived.Test.YtpijljokcoocpaaGH
namespace Go.Proofs.Ytpijljokcoocpaa
open Go.ChangeShapes Go.WideShapes Go.ChangeAt Go.RowKit
set_option linter.unusedVariables false
set_option linter.unusedSimpArgs false

set_option maxRecDepth 100000 in
set_option maxHeartbeats 4000000 in
theorem fnGrayWriteTwice_walk (w : World) (q : Q4) (hq : q.ok) (Z : Option Addr) (n cp : Nat) (zs : List Int) (hr : Rd w w.heap.size Z n zs) (x : Int) (hx : I64 x) (y : Int) (hy : I64 y) (z : Int) (hz : I64 z) (u : Int) (hu : I64 u) (v : Int) (hv : I64 v) (t : Int) (ht : I64 t) :
    Calls Try.prog 11 #[q.val, .slice Z n cp, .int .i64 x, .int .i64 y, .int .i64 z, .int .i64 u, .int .i64 v, .int .i64 t] w fun e w' => e = .returned (.bool true) ∧ Below w.heap.size w w' := by
  obtain ⟨a, b, c, d⟩ := q
  obtain ⟨ha, hb, hc, hd⟩ := hq
  show Calls Try.prog 11 #[.agg #[.int .i64 a, .int .i64 b, .int .i64 c, .int .i64 d], .slice Z n cp, .int .i64 x, .int .i64 y, .int .i64 z, .int .i64 u, .int .i64 v, .int .i64 t] w _
  have hrs := rect_same a b c d
  have hrd := rect_diff a b c d
  have hp0 := fun st v => pfld0 a b c d st v
  have hp2 := fun st A n cp => pfld2 a b c d st A n cp
  have HR := Lib.hid hr
  clear hr
  by_cases hf : Fine a b c d
  case neg =>
    have HF := Lib.hid hf
    clear hf
    go_enter Try.func11, Try.ntmps11
    go_wp2_with fail
    refine (toRect4 a b c d _).mono ?_
    rintro e w1 ⟨rfl, bc⟩
    have bw := bst bc (bsa (Below.refl _ _))
    have k_r : w1.heap[w.heap.size]? = some (.cells #[.int .i64 a, .int .i64 b, .int .i64 c, .int .i64 d] 23 (0, 0)) := by have := bk bc (heap_alloc_new w _); simpa using this
    clear bc
    go_upto_region 2 with fail
    obtain ⟨Y1, g_q, eY, eg⟩ : ∃ Y g, Y = w1.alloc (.cells #[.int .i64 a, .int .i64 b, .int .i64 c, .int .i64 d] 26) ∧ g = w1.heap.size := ⟨_, _, rfl, rfl⟩
    rw [← eY, ← eg]
    have bc : Below w1.heap.size w1 Y1 := by rw [eY]; exact (Below.refl _ _).alloc (Nat.le_refl _) _
    have k_q : Y1.heap[g_q]? = some (.cells #[.int .i64 a, .int .i64 b, .int .i64 c, .int .i64 d] 26 (0, 0)) := by rw [eY, eg]; exact heap_alloc_new w1 _
    replace k_r := bk bc k_r
    replace bw := bst bc bw
    clear bc eY eg
    have q_r := q4c k_r
    have q_q := q4c k_q
    go_wp2_with fail
    refine (fine_no a b c d ha hb hc hd HF.out _).mono ?_
    rintro e Y2 ⟨rfl, bc⟩
    clear q_r q_q
    replace k_r := bk bc k_r
    replace k_q := bk bc k_q
    replace bw := bst bc bw
    clear bc
    go_wp2
    go_ret
    exact ⟨rfl, bw⟩
  obtain ⟨h3, h4, h5, h6, N, hN⟩ := fine_area hf
  have HF := Lib.hid hf
  have HN := Lib.hid hN
  clear hf hN
  by_cases hin : In a b c d x y
  case neg =>
    have HI := Lib.hid hin
    clear hin
    go_enter Try.func11, Try.ntmps11
    go_wp2_with fail
    refine (toRect4 a b c d _).mono ?_
    rintro e w1 ⟨rfl, bc⟩
    have bw := bst bc (bsa (Below.refl _ _))
    have k_r : w1.heap[w.heap.size]? = some (.cells #[.int .i64 a, .int .i64 b, .int .i64 c, .int .i64 d] 23 (0, 0)) := by have := bk bc (heap_alloc_new w _); simpa using this
    clear bc
    go_upto_region 2 with fail
    obtain ⟨Y1, g_q, eY, eg⟩ : ∃ Y g, Y = w1.alloc (.cells #[.int .i64 a, .int .i64 b, .int .i64 c, .int .i64 d] 26) ∧ g = w1.heap.size := ⟨_, _, rfl, rfl⟩
    rw [← eY, ← eg]
    have bc : Below w1.heap.size w1 Y1 := by rw [eY]; exact (Below.refl _ _).alloc (Nat.le_refl _) _
    have k_q : Y1.heap[g_q]? = some (.cells #[.int .i64 a, .int .i64 b, .int .i64 c, .int .i64 d] 26 (0, 0)) := by rw [eY, eg]; exact heap_alloc_new w1 _
    replace k_r := bk bc k_r
    replace bw := bst bc bw
    clear bc eY eg
    have q_r := q4c k_r
    have q_q := q4c k_q
    go_wp2_with fail
    refine (fine_yes a b c d HF.out _).mono ?_
    rintro e Y2 ⟨rfl, bc⟩
    clear q_r q_q
    replace k_r := bk bc k_r
    replace k_q := bk bc k_q
    replace bw := bst bc bw
    clear bc
    have q_r := q4c k_r
    have q_q := q4c k_q
    go_wp2_with fail
    refine (has_no a b c d x y HI.out _).mono ?_
    rintro e Y3 ⟨rfl, bc⟩
    clear q_r q_q
    replace k_r := bk bc k_r
    replace k_q := bk bc k_q
    replace bw := bst bc bw
    clear bc
    go_wp2
    go_ret
    exact ⟨rfl, bw⟩
  have HI := Lib.hid hin
  clear hin
  by_cases hin : In a b c d u v
  case neg =>
    have HJ := Lib.hid hin
    clear hin
    go_enter Try.func11, Try.ntmps11
    go_wp2_with fail
    refine (toRect4 a b c d _).mono ?_
    rintro e w1 ⟨rfl, bc⟩
    have bw := bst bc (bsa (Below.refl _ _))
    have k_r : w1.heap[w.heap.size]? = some (.cells #[.int .i64 a, .int .i64 b, .int .i64 c, .int .i64 d] 23 (0, 0)) := by have := bk bc (heap_alloc_new w _); simpa using this
    clear bc
    go_upto_region 2 with fail
    obtain ⟨Y1, g_q, eY, eg⟩ : ∃ Y g, Y = w1.alloc (.cells #[.int .i64 a, .int .i64 b, .int .i64 c, .int .i64 d] 26) ∧ g = w1.heap.size := ⟨_, _, rfl, rfl⟩
    rw [← eY, ← eg]
    have bc : Below w1.heap.size w1 Y1 := by rw [eY]; exact (Below.refl _ _).alloc (Nat.le_refl _) _
    have k_q : Y1.heap[g_q]? = some (.cells #[.int .i64 a, .int .i64 b, .int .i64 c, .int .i64 d] 26 (0, 0)) := by rw [eY, eg]; exact heap_alloc_new w1 _
    replace k_r := bk bc k_r
    replace bw := bst bc bw
    clear bc eY eg
    have q_r := q4c k_r
    have q_q := q4c k_q
    go_wp2_with fail
    refine (fine_yes a b c d HF.out _).mono ?_
    rintro e Y2 ⟨rfl, bc⟩
    clear q_r q_q
    replace k_r := bk bc k_r
    replace k_q := bk bc k_q
    replace bw := bst bc bw
    clear bc
    have q_r := q4c k_r
    have q_q := q4c k_q
    go_wp2_with fail
    refine (has_yes a b c d x y HI.out _).mono ?_
    rintro e Y3 ⟨rfl, bc⟩
    clear q_r q_q
    replace k_r := bk bc k_r
    replace k_q := bk bc k_q
    replace bw := bst bc bw
    clear bc
    have q_r := q4c k_r
    have q_q := q4c k_q
    go_wp2_with fail
    refine (has_no a b c d u v HJ.out _).mono ?_
    rintro e Y4 ⟨rfl, bc⟩
    clear q_r q_q
    replace k_r := bk bc k_r
    replace k_q := bk bc k_q
    replace bw := bst bc bw
    clear bc
    go_wp2
    go_ret
    exact ⟨rfl, bw⟩
  have HJ := Lib.hid hin
  clear hin
  by_cases hxy : x = u ∧ y = v
  case pos =>
    obtain ⟨rfl, rfl⟩ := hxy
    have t1 : (x == x) = true := by simp
    have t2 : (y == y) = true := by simp
    go_enter Try.func11, Try.ntmps11
    go_wp2_with fail
    refine (toRect4 a b c d _).mono ?_
    rintro e w1 ⟨rfl, bc⟩
    have bw := bst bc (bsa (Below.refl _ _))
    have k_r : w1.heap[w.heap.size]? = some (.cells #[.int .i64 a, .int .i64 b, .int .i64 c, .int .i64 d] 23 (0, 0)) := by have := bk bc (heap_alloc_new w _); simpa using this
    clear bc
    go_upto_region 2 with fail
    obtain ⟨Y1, g_q, eY, eg⟩ : ∃ Y g, Y = w1.alloc (.cells #[.int .i64 a, .int .i64 b, .int .i64 c, .int .i64 d] 26) ∧ g = w1.heap.size := ⟨_, _, rfl, rfl⟩
    rw [← eY, ← eg]
    have bc : Below w1.heap.size w1 Y1 := by rw [eY]; exact (Below.refl _ _).alloc (Nat.le_refl _) _
    have k_q : Y1.heap[g_q]? = some (.cells #[.int .i64 a, .int .i64 b, .int .i64 c, .int .i64 d] 26 (0, 0)) := by rw [eY, eg]; exact heap_alloc_new w1 _
    replace k_r := bk bc k_r
    replace bw := bst bc bw
    clear bc eY eg
    have q_r := q4c k_r
    have q_q := q4c k_q
    go_wp2_with fail
    refine (fine_yes a b c d HF.out _).mono ?_
    rintro e Y2 ⟨rfl, bc⟩
    clear q_r q_q
    replace k_r := bk bc k_r
    replace k_q := bk bc k_q
    replace bw := bst bc bw
    clear bc
    have q_r := q4c k_r
    have q_q := q4c k_q
    go_wp2_with fail
    refine (has_yes a b c d x y HI.out _).mono ?_
    rintro e Y3 ⟨rfl, bc⟩
    clear q_r q_q
    replace k_r := bk bc k_r
    replace k_q := bk bc k_q
    replace bw := bst bc bw
    clear bc
    have q_r := q4c k_r
    have q_q := q4c k_q
    go_wp2_with fail
    refine (has_yes a b c d x y HI.out _).mono ?_
    rintro e Y4 ⟨rfl, bc⟩
    clear q_r q_q
    replace k_r := bk bc k_r
    replace k_q := bk bc k_q
    replace bw := bst bc bw
    clear bc
    go_upto_region 4 with fail
    go_cut [18] (fun s18 wx => ∃ (g_p : Nat) (A2 : Option Addr) (cp2 : Nat), s18 = .pointer (some ⟨g_p, 0, none⟩) ∧ wx.heap[g_p]? = some (.cells #[.int .i64 a, .int .i64 b, .int .i64 c, .int .i64 d, .int .i64 (c - a), .slice A2 N cp2] 29 (0, 0)) ∧ wx.heap[w.heap.size]? = some (.cells #[.int .i64 a, .int .i64 b, .int .i64 c, .int .i64 d] 23 (0, 0)) ∧ wx.heap[g_q]? = some (.cells #[.int .i64 a, .int .i64 b, .int .i64 c, .int .i64 d] 26 (0, 0)) ∧ Hid (Rd wx wx.heap.size A2 N (wrAt (byt N (wrAt (byt N zs) a b c d x y (z % 256))) a b c d x y (t % 256))) ∧ Hid (Below w.heap.size w wx))
    case first =>
      refine wp_region_held_drew (S := fun w' => w'.cell? ⟨g_q, 0, none⟩ = some (.int .i64 a) ∧ w'.cell? ⟨g_q, 1, none⟩ = some (.int .i64 b) ∧ w'.cell? ⟨g_q, 2, none⟩ = some (.int .i64 c) ∧ w'.cell? ⟨g_q, 3, none⟩ = some (.int .i64 d)) (by kernel_rfl) ⟨(q4c k_q).1.1, (q4c k_q).1.2.1, (q4c k_q).1.2.2.1, (q4c k_q).1.2.2.2⟩ ?_
      intro hHeld
      obtain ⟨X5, eX, bc⟩ : ∃ X, X = Y4.drew ∧ Below Y4.heap.size Y4 X := ⟨_, rfl, (Below.refl _ _).drew⟩
      rw [← eX] at hHeld ⊢
      replace k_r := bk bc k_r
      replace k_q := bk bc k_q
      replace bw := bst bc bw
      (try replace r1 := (r1.below bc).more bc.size)
      (try replace r2 := (r2.below bc).more bc.size)
      clear eX bc
      refine takx (i := 0) (D := 38) (v := .agg #[.int .i64 a, .int .i64 b, .int .i64 c, .int .i64 d]) rfl rfl (by kernel_rfl) (by kernel_rfl) (by kernel_rfl) (fun _ _ _ h => h) (Or.inl ⟨by rfl, fun W hSw => by (try dsimp only at hSw); go_simp⟩) (by assumption) ?_
      (try simp only [List.setIfInBounds_toArray, List.set_cons_zero, List.set_cons_succ])
      refine takx (i := 1) (D := 39) (v := .agg #[.int .i64 a, .int .i64 b, .int .i64 c, .int .i64 d]) rfl rfl (by kernel_rfl) (by kernel_rfl) (by kernel_rfl) (fun _ _ _ h => h) (Or.inl ⟨by rfl, fun W hSw => by (try dsimp only at hSw); go_simp⟩) (by assumption) ?_
      (try simp only [List.setIfInBounds_toArray, List.set_cons_zero, List.set_cons_succ])
      refine takx (i := 2) (D := 40) (v := .slice Z n cp) rfl rfl (by kernel_rfl) (by kernel_rfl) (by kernel_rfl) (fun _ _ _ h => h) (Or.inl ⟨by rfl, fun W hSw => by (try dsimp only at hSw); go_simp⟩) (by assumption) ?_
      (try simp only [List.setIfInBounds_toArray, List.set_cons_zero, List.set_cons_succ])
      refine takx (i := 3) (D := 41) (v := .int .i64 x) rfl rfl (by kernel_rfl) (by kernel_rfl) (by kernel_rfl) (fun _ _ _ h => h) (Or.inl ⟨by rfl, fun W hSw => by (try dsimp only at hSw); go_simp⟩) (by assumption) ?_
      (try simp only [List.setIfInBounds_toArray, List.set_cons_zero, List.set_cons_succ])
      refine takx (i := 4) (D := 42) (v := .int .i64 y) rfl rfl (by kernel_rfl) (by kernel_rfl) (by kernel_rfl) (fun _ _ _ h => h) (Or.inl ⟨by rfl, fun W hSw => by (try dsimp only at hSw); go_simp⟩) (by assumption) ?_
      (try simp only [List.setIfInBounds_toArray, List.set_cons_zero, List.set_cons_succ])
      refine takx (i := 5) (D := 43) (v := .int .i64 z) rfl rfl (by kernel_rfl) (by kernel_rfl) (by kernel_rfl) (fun _ _ _ h => h) (Or.inl ⟨by rfl, fun W hSw => by (try dsimp only at hSw); go_simp⟩) (by assumption) ?_
      (try simp only [List.setIfInBounds_toArray, List.set_cons_zero, List.set_cons_succ])
      refine takx (i := 8) (D := 46) (v := .int .i64 x) rfl rfl (by kernel_rfl) (by kernel_rfl) (by kernel_rfl) (fun _ _ _ h => h) (Or.inl ⟨by rfl, fun W hSw => by (try dsimp only at hSw); go_simp⟩) (by assumption) ?_
      (try simp only [List.setIfInBounds_toArray, List.set_cons_zero, List.set_cons_succ])
      refine takx (i := 9) (D := 47) (v := .int .i64 y) rfl rfl (by kernel_rfl) (by kernel_rfl) (by kernel_rfl) (fun _ _ _ h => h) (Or.inl ⟨by rfl, fun W hSw => by (try dsimp only at hSw); go_simp⟩) (by assumption) ?_
      (try simp only [List.setIfInBounds_toArray, List.set_cons_zero, List.set_cons_succ])
      refine takx (i := 10) (D := 48) (v := .int .i64 t) rfl rfl (by kernel_rfl) (by kernel_rfl) (by kernel_rfl) (fun _ _ _ h => h) (Or.inl ⟨by rfl, fun W hSw => by (try dsimp only at hSw); go_simp⟩) (by assumption) ?_
      (try simp only [List.setIfInBounds_toArray, List.set_cons_zero, List.set_cons_succ])
      refine wpAnyH_ready (rs := [6, 12]) (by kernel_rfl) (by simp) ?_
      refine (AllReadyH.cons rfl (fun K hK => ?_) (AllReadyH.cons rfl (fun K hK => ?_) AllReadyH.nil))
      · go_simp
        refine (grayWrite_any a b c d N h3 h4 h5 h6 HN.out n cp Z (zs) x y z _ ((HR.out.below bw).more bw.size)).mono ?_
        rintro e X6 ⟨A1, cp1, rfl, r1, lo1, bc⟩
        refine hK.out _ _ ⟨ck bc hHeld.1, ck bc hHeld.2.1, ck bc hHeld.2.2.1, ck bc hHeld.2.2.2⟩ (fun hHeld => ?_)
        clear hK K
        (try simp only [List.setIfInBounds_toArray, List.set_cons_zero, List.set_cons_succ])
        replace k_r := bk bc k_r
        replace k_q := bk bc k_q
        replace bw := bst bc bw
        (try replace r1 := (r1.below bc).more bc.size)
        (try replace r2 := (r2.below bc).more bc.size)
        clear bc
        refine takx (i := 7) (D := 45) (v := .slice A1 N cp1) rfl rfl (by kernel_rfl) (by kernel_rfl) (by kernel_rfl) (fun _ _ _ h => h) (Or.inl ⟨by rfl, fun W hSw => by (try dsimp only at hSw); go_simp⟩) (by assumption) ?_
        (try simp only [List.setIfInBounds_toArray, List.set_cons_zero, List.set_cons_succ])
        refine wpAnyH_ready (rs := [11, 12]) (by kernel_rfl) (by simp) ?_
        refine (AllReadyH.cons rfl (fun K hK => ?_) (AllReadyH.cons rfl (fun K hK => ?_) AllReadyH.nil))
        · go_simp
          refine (grayWrite_any a b c d N h3 h4 h5 h6 HN.out N cp1 A1 (wrAt (byt N zs) a b c d x y (z % 256)) x y t _ r1).mono ?_
          rintro e X7 ⟨A2, cp2, rfl, r2, lo2, bc⟩
          refine hK.out _ _ ⟨ck bc hHeld.1, ck bc hHeld.2.1, ck bc hHeld.2.2.1, ck bc hHeld.2.2.2⟩ (fun hHeld => ?_)
          clear hK K
          (try simp only [List.setIfInBounds_toArray, List.set_cons_zero, List.set_cons_succ])
          replace k_r := bk bc k_r
          replace k_q := bk bc k_q
          replace bw := bst bc bw
          (try replace r1 := (r1.below bc).more bc.size)
          (try replace r2 := (r2.below bc).more bc.size)
          clear bc
          refine wpAnyH_ready (rs := [12]) (by kernel_rfl) (by simp) ?_
          refine (AllReadyH.cons rfl (fun K hK => ?_) AllReadyH.nil)
          go_simp
          refine hK.out _ _ ⟨cka hHeld.1, cka hHeld.2.1, cka hHeld.2.2.1, cka hHeld.2.2.2⟩ (fun hHeld => ?_)
          clear hK K
          (try simp only [List.setIfInBounds_toArray, List.set_cons_zero, List.set_cons_succ])
          obtain ⟨X8, g8, eY, eg⟩ : ∃ Y g, Y = X7.alloc (.cells #[.int .i64 0, .int .i64 0, .int .i64 0, .int .i64 0, .int .i64 0, .slice none 0 0] 29) ∧ g = X7.heap.size := ⟨_, _, rfl, rfl⟩
          rw [← eY, ← eg]
          rw [← eY] at hHeld
          have bc : Below X7.heap.size X7 X8 := by rw [eY]; exact (Below.refl _ _).alloc (Nat.le_refl _) _
          have k_n18 : X8.heap[g8]? = some (.cells #[.int .i64 0, .int .i64 0, .int .i64 0, .int .i64 0, .int .i64 0, .slice none 0 0] 29 (0, 0)) := by rw [eY, eg]; exact heap_alloc_new X7 _
          have lo_n18 : w.heap.size ≤ g8 := by rw [eg]; exact bw.size
          have ne_r_n18 : ¬ w.heap.size = g8 := ne_new k_r eg
          have ne_q_n18 : ¬ g_q = g8 := ne_new k_q eg
          (try have na_r1 := Rd.ne_new r1 eg)
          (try have na_r2 := Rd.ne_new r2 eg)
          replace k_r := bk bc k_r
          replace k_q := bk bc k_q
          replace bw := bst bc bw
          (try replace r1 := (r1.below bc).more bc.size)
          (try replace r2 := (r2.below bc).more bc.size)
          clear bc eY eg
          refine wpAnyH_ready (rs := [13]) (by kernel_rfl) (by simp) ?_
          refine (AllReadyH.cons rfl (fun K hK => ?_) AllReadyH.nil)
          have qq := q6c k_n18
          go_simp
          clear qq
          refine hK.out _ _ ⟨(cks ne_q_n18 (cks ne_q_n18 (cks ne_q_n18 (cks ne_q_n18 (cks ne_q_n18 (cks ne_q_n18 hHeld.1)))))), (cks ne_q_n18 (cks ne_q_n18 (cks ne_q_n18 (cks ne_q_n18 (cks ne_q_n18 (cks ne_q_n18 hHeld.2.1)))))), (cks ne_q_n18 (cks ne_q_n18 (cks ne_q_n18 (cks ne_q_n18 (cks ne_q_n18 (cks ne_q_n18 hHeld.2.2.1)))))), (cks ne_q_n18 (cks ne_q_n18 (cks ne_q_n18 (cks ne_q_n18 (cks ne_q_n18 (cks ne_q_n18 hHeld.2.2.2))))))⟩ (fun hHeld => ?_)
          clear hK K
          (try simp only [List.setIfInBounds_toArray, List.set_cons_zero, List.set_cons_succ])
          obtain ⟨X9, eY⟩ : ∃ Y, Y = ((((((X8.setCell ⟨g8, 0, none⟩ (.int .i64 a)).setCell ⟨g8, 1, none⟩ (.int .i64 b)).setCell ⟨g8, 2, none⟩ (.int .i64 c)).setCell ⟨g8, 3, none⟩ (.int .i64 d)).setCell ⟨g8, 4, none⟩ (.int .i64 (c - a))).setCell ⟨g8, 5, none⟩ (.slice A2 N cp2)) := ⟨_, rfl⟩
          rw [← eY] at hHeld ⊢
          replace k_r : X9.heap[w.heap.size]? = some (.cells #[.int .i64 a, .int .i64 b, .int .i64 c, .int .i64 d] 23 (0, 0)) := by rw [eY]; exact (bks ne_r_n18 (bks ne_r_n18 (bks ne_r_n18 (bks ne_r_n18 (bks ne_r_n18 (bks ne_r_n18 k_r))))))
          replace k_q : X9.heap[g_q]? = some (.cells #[.int .i64 a, .int .i64 b, .int .i64 c, .int .i64 d] 26 (0, 0)) := by rw [eY]; exact (bks ne_q_n18 (bks ne_q_n18 (bks ne_q_n18 (bks ne_q_n18 (bks ne_q_n18 (bks ne_q_n18 k_q))))))
          replace bw : Below w.heap.size w X9 := by rw [eY]; exact (bss lo_n18 (bss lo_n18 (bss lo_n18 (bss lo_n18 (bss lo_n18 (bss lo_n18 bw))))))
          replace k_n18 : X9.heap[g8]? = some (.cells #[.int .i64 a, .int .i64 b, .int .i64 c, .int .i64 d, .int .i64 (c - a), .slice A2 N cp2] 29 (0, 0)) := by rw [eY]; exact q6s k_n18
          (try replace r1 := Rd.sized (W := X9) (Rd.sset na_r1 (Rd.sset na_r1 (Rd.sset na_r1 (Rd.sset na_r1 (Rd.sset na_r1 (Rd.sset na_r1 r1)))))) eY)
          (try replace r2 := Rd.sized (W := X9) (Rd.sset na_r2 (Rd.sset na_r2 (Rd.sset na_r2 (Rd.sset na_r2 (Rd.sset na_r2 (Rd.sset na_r2 r2)))))) eY)
          clear eY
          refine wpAnyH_done (by kernel_rfl) ?_ _
          go_wp2_with fail
          go_meet
          exact ⟨_, A2, cp2, rfl, k_n18, k_r, k_q, r2, bw⟩
        · go_simp
          refine hK.out _ _ ⟨cka hHeld.1, cka hHeld.2.1, cka hHeld.2.2.1, cka hHeld.2.2.2⟩ (fun hHeld => ?_)
          clear hK K
          (try simp only [List.setIfInBounds_toArray, List.set_cons_zero, List.set_cons_succ])
          obtain ⟨X10, g10, eY, eg⟩ : ∃ Y g, Y = X6.alloc (.cells #[.int .i64 0, .int .i64 0, .int .i64 0, .int .i64 0, .int .i64 0, .slice none 0 0] 29) ∧ g = X6.heap.size := ⟨_, _, rfl, rfl⟩
          rw [← eY, ← eg]
          rw [← eY] at hHeld
          have bc : Below X6.heap.size X6 X10 := by rw [eY]; exact (Below.refl _ _).alloc (Nat.le_refl _) _
          have k_n18 : X10.heap[g10]? = some (.cells #[.int .i64 0, .int .i64 0, .int .i64 0, .int .i64 0, .int .i64 0, .slice none 0 0] 29 (0, 0)) := by rw [eY, eg]; exact heap_alloc_new X6 _
          have lo_n18 : w.heap.size ≤ g10 := by rw [eg]; exact bw.size
          have ne_r_n18 : ¬ w.heap.size = g10 := ne_new k_r eg
          have ne_q_n18 : ¬ g_q = g10 := ne_new k_q eg
          (try have na_r1 := Rd.ne_new r1 eg)
          (try have na_r2 := Rd.ne_new r2 eg)
          replace k_r := bk bc k_r
          replace k_q := bk bc k_q
          replace bw := bst bc bw
          (try replace r1 := (r1.below bc).more bc.size)
          (try replace r2 := (r2.below bc).more bc.size)
          clear bc eY eg
          refine wpAnyH_ready (rs := [11]) (by kernel_rfl) (by simp) ?_
          refine (AllReadyH.cons rfl (fun K hK => ?_) AllReadyH.nil)
          go_simp
          refine (grayWrite_any a b c d N h3 h4 h5 h6 HN.out N cp1 A1 (wrAt (byt N zs) a b c d x y (z % 256)) x y t _ r1).mono ?_
          rintro e X11 ⟨A2, cp2, rfl, r2, lo2, bc⟩
          refine hK.out _ _ ⟨ck bc hHeld.1, ck bc hHeld.2.1, ck bc hHeld.2.2.1, ck bc hHeld.2.2.2⟩ (fun hHeld => ?_)
          clear hK K
          (try simp only [List.setIfInBounds_toArray, List.set_cons_zero, List.set_cons_succ])
          have na_r2 := lo_ne (n := N) lo2 k_n18
          replace k_r := bk bc k_r
          replace k_q := bk bc k_q
          replace k_n18 := bk bc k_n18
          replace bw := bst bc bw
          (try replace r1 := (r1.below bc).more bc.size)
          (try replace r2 := (r2.below bc).more bc.size)
          clear bc
          refine wpAnyH_ready (rs := [13]) (by kernel_rfl) (by simp) ?_
          refine (AllReadyH.cons rfl (fun K hK => ?_) AllReadyH.nil)
          have qq := q6c k_n18
          go_simp
          clear qq
          refine hK.out _ _ ⟨(cks ne_q_n18 (cks ne_q_n18 (cks ne_q_n18 (cks ne_q_n18 (cks ne_q_n18 (cks ne_q_n18 hHeld.1)))))), (cks ne_q_n18 (cks ne_q_n18 (cks ne_q_n18 (cks ne_q_n18 (cks ne_q_n18 (cks ne_q_n18 hHeld.2.1)))))), (cks ne_q_n18 (cks ne_q_n18 (cks ne_q_n18 (cks ne_q_n18 (cks ne_q_n18 (cks ne_q_n18 hHeld.2.2.1)))))), (cks ne_q_n18 (cks ne_q_n18 (cks ne_q_n18 (cks ne_q_n18 (cks ne_q_n18 (cks ne_q_n18 hHeld.2.2.2))))))⟩ (fun hHeld => ?_)
          clear hK K
          (try simp only [List.setIfInBounds_toArray, List.set_cons_zero, List.set_cons_succ])
          obtain ⟨X12, eY⟩ : ∃ Y, Y = ((((((X11.setCell ⟨g10, 0, none⟩ (.int .i64 a)).setCell ⟨g10, 1, none⟩ (.int .i64 b)).setCell ⟨g10, 2, none⟩ (.int .i64 c)).setCell ⟨g10, 3, none⟩ (.int .i64 d)).setCell ⟨g10, 4, none⟩ (.int .i64 (c - a))).setCell ⟨g10, 5, none⟩ (.slice A2 N cp2)) := ⟨_, rfl⟩
          rw [← eY] at hHeld ⊢
          replace k_r : X12.heap[w.heap.size]? = some (.cells #[.int .i64 a, .int .i64 b, .int .i64 c, .int .i64 d] 23 (0, 0)) := by rw [eY]; exact (bks ne_r_n18 (bks ne_r_n18 (bks ne_r_n18 (bks ne_r_n18 (bks ne_r_n18 (bks ne_r_n18 k_r))))))
          replace k_q : X12.heap[g_q]? = some (.cells #[.int .i64 a, .int .i64 b, .int .i64 c, .int .i64 d] 26 (0, 0)) := by rw [eY]; exact (bks ne_q_n18 (bks ne_q_n18 (bks ne_q_n18 (bks ne_q_n18 (bks ne_q_n18 (bks ne_q_n18 k_q))))))
          replace bw : Below w.heap.size w X12 := by rw [eY]; exact (bss lo_n18 (bss lo_n18 (bss lo_n18 (bss lo_n18 (bss lo_n18 (bss lo_n18 bw))))))
          replace k_n18 : X12.heap[g10]? = some (.cells #[.int .i64 a, .int .i64 b, .int .i64 c, .int .i64 d, .int .i64 (c - a), .slice A2 N cp2] 29 (0, 0)) := by rw [eY]; exact q6s k_n18
          (try replace r1 := Rd.sized (W := X12) (Rd.sset na_r1 (Rd.sset na_r1 (Rd.sset na_r1 (Rd.sset na_r1 (Rd.sset na_r1 (Rd.sset na_r1 r1)))))) eY)
          (try replace r2 := Rd.sized (W := X12) (Rd.sset na_r2 (Rd.sset na_r2 (Rd.sset na_r2 (Rd.sset na_r2 (Rd.sset na_r2 (Rd.sset na_r2 r2)))))) eY)
          clear eY
          refine wpAnyH_done (by kernel_rfl) ?_ _
          go_wp2_with fail
          go_meet
          exact ⟨_, A2, cp2, rfl, k_n18, k_r, k_q, r2, bw⟩
      · go_simp
        refine hK.out _ _ ⟨cka hHeld.1, cka hHeld.2.1, cka hHeld.2.2.1, cka hHeld.2.2.2⟩ (fun hHeld => ?_)
        clear hK K
        (try simp only [List.setIfInBounds_toArray, List.set_cons_zero, List.set_cons_succ])
        obtain ⟨X13, g13, eY, eg⟩ : ∃ Y g, Y = X5.alloc (.cells #[.int .i64 0, .int .i64 0, .int .i64 0, .int .i64 0, .int .i64 0, .slice none 0 0] 29) ∧ g = X5.heap.size := ⟨_, _, rfl, rfl⟩
        rw [← eY, ← eg]
        rw [← eY] at hHeld
        have bc : Below X5.heap.size X5 X13 := by rw [eY]; exact (Below.refl _ _).alloc (Nat.le_refl _) _
        have k_n18 : X13.heap[g13]? = some (.cells #[.int .i64 0, .int .i64 0, .int .i64 0, .int .i64 0, .int .i64 0, .slice none 0 0] 29 (0, 0)) := by rw [eY, eg]; exact heap_alloc_new X5 _
        have lo_n18 : w.heap.size ≤ g13 := by rw [eg]; exact bw.size
        have ne_r_n18 : ¬ w.heap.size = g13 := ne_new k_r eg
        have ne_q_n18 : ¬ g_q = g13 := ne_new k_q eg
        (try have na_r1 := Rd.ne_new r1 eg)
        (try have na_r2 := Rd.ne_new r2 eg)
        replace k_r := bk bc k_r
        replace k_q := bk bc k_q
        replace bw := bst bc bw
        (try replace r1 := (r1.below bc).more bc.size)
        (try replace r2 := (r2.below bc).more bc.size)
        clear bc eY eg
        refine wpAnyH_ready (rs := [6]) (by kernel_rfl) (by simp) ?_
        refine (AllReadyH.cons rfl (fun K hK => ?_) AllReadyH.nil)
        go_simp
        refine (grayWrite_any a b c d N h3 h4 h5 h6 HN.out n cp Z (zs) x y z _ ((HR.out.below bw).more bw.size)).mono ?_
        rintro e X14 ⟨A1, cp1, rfl, r1, lo1, bc⟩
        refine hK.out _ _ ⟨ck bc hHeld.1, ck bc hHeld.2.1, ck bc hHeld.2.2.1, ck bc hHeld.2.2.2⟩ (fun hHeld => ?_)
        clear hK K
        (try simp only [List.setIfInBounds_toArray, List.set_cons_zero, List.set_cons_succ])
        have na_r1 := lo_ne (n := N) lo1 k_n18
        replace k_r := bk bc k_r
        replace k_q := bk bc k_q
        replace k_n18 := bk bc k_n18
        replace bw := bst bc bw
        (try replace r1 := (r1.below bc).more bc.size)
        (try replace r2 := (r2.below bc).more bc.size)
        clear bc
        refine takx (i := 7) (D := 45) (v := .slice A1 N cp1) rfl rfl (by kernel_rfl) (by kernel_rfl) (by kernel_rfl) (fun _ _ _ h => h) (Or.inl ⟨by rfl, fun W hSw => by (try dsimp only at hSw); go_simp⟩) (by assumption) ?_
        (try simp only [List.setIfInBounds_toArray, List.set_cons_zero, List.set_cons_succ])
        refine wpAnyH_ready (rs := [11]) (by kernel_rfl) (by simp) ?_
        refine (AllReadyH.cons rfl (fun K hK => ?_) AllReadyH.nil)
        go_simp
        refine (grayWrite_any a b c d N h3 h4 h5 h6 HN.out N cp1 A1 (wrAt (byt N zs) a b c d x y (z % 256)) x y t _ r1).mono ?_
        rintro e X15 ⟨A2, cp2, rfl, r2, lo2, bc⟩
        refine hK.out _ _ ⟨ck bc hHeld.1, ck bc hHeld.2.1, ck bc hHeld.2.2.1, ck bc hHeld.2.2.2⟩ (fun hHeld => ?_)
        clear hK K
        (try simp only [List.setIfInBounds_toArray, List.set_cons_zero, List.set_cons_succ])
        have na_r2 := lo_ne (n := N) lo2 k_n18
        replace k_r := bk bc k_r
        replace k_q := bk bc k_q
        replace k_n18 := bk bc k_n18
        replace bw := bst bc bw
        (try replace r1 := (r1.below bc).more bc.size)
        (try replace r2 := (r2.below bc).more bc.size)
        clear bc
        refine wpAnyH_ready (rs := [13]) (by kernel_rfl) (by simp) ?_
        refine (AllReadyH.cons rfl (fun K hK => ?_) AllReadyH.nil)
        have qq := q6c k_n18
        go_simp
        clear qq
        refine hK.out _ _ ⟨(cks ne_q_n18 (cks ne_q_n18 (cks ne_q_n18 (cks ne_q_n18 (cks ne_q_n18 (cks ne_q_n18 hHeld.1)))))), (cks ne_q_n18 (cks ne_q_n18 (cks ne_q_n18 (cks ne_q_n18 (cks ne_q_n18 (cks ne_q_n18 hHeld.2.1)))))), (cks ne_q_n18 (cks ne_q_n18 (cks ne_q_n18 (cks ne_q_n18 (cks ne_q_n18 (cks ne_q_n18 hHeld.2.2.1)))))), (cks ne_q_n18 (cks ne_q_n18 (cks ne_q_n18 (cks ne_q_n18 (cks ne_q_n18 (cks ne_q_n18 hHeld.2.2.2))))))⟩ (fun hHeld => ?_)
        clear hK K
        (try simp only [List.setIfInBounds_toArray, List.set_cons_zero, List.set_cons_succ])
        obtain ⟨X16, eY⟩ : ∃ Y, Y = ((((((X15.setCell ⟨g13, 0, none⟩ (.int .i64 a)).setCell ⟨g13, 1, none⟩ (.int .i64 b)).setCell ⟨g13, 2, none⟩ (.int .i64 c)).setCell ⟨g13, 3, none⟩ (.int .i64 d)).setCell ⟨g13, 4, none⟩ (.int .i64 (c - a))).setCell ⟨g13, 5, none⟩ (.slice A2 N cp2)) := ⟨_, rfl⟩
        rw [← eY] at hHeld ⊢
        replace k_r : X16.heap[w.heap.size]? = some (.cells #[.int .i64 a, .int .i64 b, .int .i64 c, .int .i64 d] 23 (0, 0)) := by rw [eY]; exact (bks ne_r_n18 (bks ne_r_n18 (bks ne_r_n18 (bks ne_r_n18 (bks ne_r_n18 (bks ne_r_n18 k_r))))))
        replace k_q : X16.heap[g_q]? = some (.cells #[.int .i64 a, .int .i64 b, .int .i64 c, .int .i64 d] 26 (0, 0)) := by rw [eY]; exact (bks ne_q_n18 (bks ne_q_n18 (bks ne_q_n18 (bks ne_q_n18 (bks ne_q_n18 (bks ne_q_n18 k_q))))))
        replace bw : Below w.heap.size w X16 := by rw [eY]; exact (bss lo_n18 (bss lo_n18 (bss lo_n18 (bss lo_n18 (bss lo_n18 (bss lo_n18 bw))))))
        replace k_n18 : X16.heap[g13]? = some (.cells #[.int .i64 a, .int .i64 b, .int .i64 c, .int .i64 d, .int .i64 (c - a), .slice A2 N cp2] 29 (0, 0)) := by rw [eY]; exact q6s k_n18
        (try replace r1 := Rd.sized (W := X16) (Rd.sset na_r1 (Rd.sset na_r1 (Rd.sset na_r1 (Rd.sset na_r1 (Rd.sset na_r1 (Rd.sset na_r1 r1)))))) eY)
        (try replace r2 := Rd.sized (W := X16) (Rd.sset na_r2 (Rd.sset na_r2 (Rd.sset na_r2 (Rd.sset na_r2 (Rd.sset na_r2 (Rd.sset na_r2 r2)))))) eY)
        clear eY
        refine wpAnyH_done (by kernel_rfl) ?_ _
        go_wp2_with fail
        go_meet
        exact ⟨_, A2, cp2, rfl, k_n18, k_r, k_q, r2, bw⟩
    case rest =>
      clear k_r k_q bw
      obtain ⟨g_p, A2, cp2, rfl, k_p, k_r, k_q, R2, BW⟩ := hcut
      have bw := BW.out
      clear BW
      have r2 := R2.out
      clear R2
      have q_r := q4c k_r
      have q_q := q4c k_q
      have q_p := q6c k_p
      go_upto_region 8 with fail
      clear q_r q_q q_p
      refine wp_region_held_drew (S := fun w' => w'.cell? ⟨g_q, 0, none⟩ = some (.int .i64 a) ∧ w'.cell? ⟨g_q, 1, none⟩ = some (.int .i64 b) ∧ w'.cell? ⟨g_q, 2, none⟩ = some (.int .i64 c) ∧ w'.cell? ⟨g_q, 3, none⟩ = some (.int .i64 d) ∧ w'.cell? ⟨g_p, 0, none⟩ = some (.int .i64 a) ∧ w'.cell? ⟨g_p, 1, none⟩ = some (.int .i64 b) ∧ w'.cell? ⟨g_p, 2, none⟩ = some (.int .i64 c) ∧ w'.cell? ⟨g_p, 3, none⟩ = some (.int .i64 d) ∧ w'.cell? ⟨g_p, 4, none⟩ = some (.int .i64 (c - a)) ∧ w'.cell? ⟨g_p, 5, none⟩ = some (.slice A2 N cp2)) (by kernel_rfl) ⟨(q4c k_q).1.1, (q4c k_q).1.2.1, (q4c k_q).1.2.2.1, (q4c k_q).1.2.2.2, (q6c k_p).1.1, (q6c k_p).1.2.1, (q6c k_p).1.2.2.1, (q6c k_p).1.2.2.2.1, (q6c k_p).1.2.2.2.2.1, (q6c k_p).1.2.2.2.2.2⟩ ?_
      intro hHeld
      obtain ⟨X18, eX, bc⟩ : ∃ X, X = wc.drew ∧ Below wc.heap.size wc X := ⟨_, rfl, (Below.refl _ _).drew⟩
      rw [← eX] at hHeld ⊢
      replace k_r := bk bc k_r
      replace k_q := bk bc k_q
      replace k_p := bk bc k_p
      replace bw := bst bc bw
      (try replace r2 := (r2.below bc).more bc.size)
      (try replace r3 := (r3.below bc).more bc.size)
      (try replace r4 := (r4.below bc).more bc.size)
      clear eX bc
      refine takx (i := 0) (D := 62) (v := .agg #[.int .i64 a, .int .i64 b, .int .i64 c, .int .i64 d, .int .i64 (c - a), .slice A2 N cp2]) rfl rfl (by kernel_rfl) (by kernel_rfl) (by kernel_rfl) (fun _ _ _ h => h) (Or.inl ⟨by rfl, fun W hSw => by (try dsimp only at hSw); go_simp⟩) (by assumption) ?_
      (try simp only [List.setIfInBounds_toArray, List.set_cons_zero, List.set_cons_succ])
      refine takx (i := 1) (D := 63) (v := .agg #[.int .i64 a, .int .i64 b, .int .i64 c, .int .i64 d]) rfl rfl (by kernel_rfl) (by kernel_rfl) (by kernel_rfl) (fun _ _ _ h => h) (Or.inl ⟨by rfl, fun W hSw => by (try dsimp only at hSw); go_simp⟩) (by assumption) ?_
      (try simp only [List.setIfInBounds_toArray, List.set_cons_zero, List.set_cons_succ])
      refine takx (i := 2) (D := 64) (v := .slice Z n cp) rfl rfl (by kernel_rfl) (by kernel_rfl) (by kernel_rfl) (fun _ _ _ h => h) (Or.inl ⟨by rfl, fun W hSw => by (try dsimp only at hSw); go_simp⟩) (by assumption) ?_
      (try simp only [List.setIfInBounds_toArray, List.set_cons_zero, List.set_cons_succ])
      refine takx (i := 3) (D := 65) (v := .int .i64 x) rfl rfl (by kernel_rfl) (by kernel_rfl) (by kernel_rfl) (fun _ _ _ h => h) (Or.inl ⟨by rfl, fun W hSw => by (try dsimp only at hSw); go_simp⟩) (by assumption) ?_
      (try simp only [List.setIfInBounds_toArray, List.set_cons_zero, List.set_cons_succ])
      refine takx (i := 4) (D := 66) (v := .int .i64 y) rfl rfl (by kernel_rfl) (by kernel_rfl) (by kernel_rfl) (fun _ _ _ h => h) (Or.inl ⟨by rfl, fun W hSw => by (try dsimp only at hSw); go_simp⟩) (by assumption) ?_
      (try simp only [List.setIfInBounds_toArray, List.set_cons_zero, List.set_cons_succ])
      refine takx (i := 5) (D := 67) (v := .int .i64 t) rfl rfl (by kernel_rfl) (by kernel_rfl) (by kernel_rfl) (fun _ _ _ h => h) (Or.inl ⟨by rfl, fun W hSw => by (try dsimp only at hSw); go_simp⟩) (by assumption) ?_
      (try simp only [List.setIfInBounds_toArray, List.set_cons_zero, List.set_cons_succ])
      refine wpAnyH_ready (rs := [6]) (by kernel_rfl) (by simp) ?_
      refine (AllReadyH.cons rfl (fun K hK => ?_) AllReadyH.nil)
      go_simp
      refine (grayWrite_any a b c d N h3 h4 h5 h6 HN.out n cp Z (zs) x y t _ ((HR.out.below bw).more bw.size)).mono ?_
      rintro e X19 ⟨A3, cp3, rfl, r3, lo3, bc⟩
      refine hK.out _ _ ⟨ck bc hHeld.1, ck bc hHeld.2.1, ck bc hHeld.2.2.1, ck bc hHeld.2.2.2.1, ck bc hHeld.2.2.2.2.1, ck bc hHeld.2.2.2.2.2.1, ck bc hHeld.2.2.2.2.2.2.1, ck bc hHeld.2.2.2.2.2.2.2.1, ck bc hHeld.2.2.2.2.2.2.2.2.1, ck bc hHeld.2.2.2.2.2.2.2.2.2⟩ (fun hHeld => ?_)
      clear hK K
      (try simp only [List.setIfInBounds_toArray, List.set_cons_zero, List.set_cons_succ])
      replace k_r := bk bc k_r
      replace k_q := bk bc k_q
      replace k_p := bk bc k_p
      replace bw := bst bc bw
      (try replace r2 := (r2.below bc).more bc.size)
      (try replace r3 := (r3.below bc).more bc.size)
      (try replace r4 := (r4.below bc).more bc.size)
      clear bc
      refine wpAnyH_ready (rs := [7]) (by kernel_rfl) (by simp) ?_
      refine (AllReadyH.cons rfl (fun K hK => ?_) AllReadyH.nil)
      go_simp
      refine (samePic_true _ _ _ _ _ _ _ _ _ _ (wrAt (byt N zs) a b c d x y (t % 256)) _ (by have := r2; rw [(byt_self (by rw [wrAt_length, byt_length]) (wrAt_ok (byt_ok _ _) (by omega) (by omega))), wr_wr_same] at this; exact this) r3).mono ?_
      rintro e X20 ⟨rfl, bc⟩
      refine hK.out _ _ ⟨ck bc hHeld.1, ck bc hHeld.2.1, ck bc hHeld.2.2.1, ck bc hHeld.2.2.2.1, ck bc hHeld.2.2.2.2.1, ck bc hHeld.2.2.2.2.2.1, ck bc hHeld.2.2.2.2.2.2.1, ck bc hHeld.2.2.2.2.2.2.2.1, ck bc hHeld.2.2.2.2.2.2.2.2.1, ck bc hHeld.2.2.2.2.2.2.2.2.2⟩ (fun hHeld => ?_)
      clear hK K
      (try simp only [List.setIfInBounds_toArray, List.set_cons_zero, List.set_cons_succ])
      replace k_r := bk bc k_r
      replace k_q := bk bc k_q
      replace k_p := bk bc k_p
      replace bw := bst bc bw
      (try replace r2 := (r2.below bc).more bc.size)
      (try replace r3 := (r3.below bc).more bc.size)
      (try replace r4 := (r4.below bc).more bc.size)
      clear bc
      refine takx (i := 8) (D := 16) (v := .bool true) rfl rfl (by kernel_rfl) (by kernel_rfl) (by kernel_rfl) (fun _ _ _ h => h) (Or.inl ⟨by rfl, fun W hSw => by (try dsimp only at hSw); go_simp⟩) (by assumption) ?_
      (try simp only [List.setIfInBounds_toArray, List.set_cons_zero, List.set_cons_succ])
      refine wpAnyH_done (by kernel_rfl) ?_ _
      clear hHeld
      go_wp2
      go_ret
      exact ⟨rfl, bw⟩
  have HXY := Lib.hid hxy
  by_cases hx1 : x = u
  case pos =>
    have hy1 : ¬ y = v := fun h => hxy ⟨hx1, h⟩
    have t1 : (x == u) = true := by simpa using hx1
    have t2 : (y == v) = false := by simpa using hy1
    clear hxy hx1
    go_enter Try.func11, Try.ntmps11
    go_wp2_with fail
    refine (toRect4 a b c d _).mono ?_
    rintro e w1 ⟨rfl, bc⟩
    have bw := bst bc (bsa (Below.refl _ _))
    have k_r : w1.heap[w.heap.size]? = some (.cells #[.int .i64 a, .int .i64 b, .int .i64 c, .int .i64 d] 23 (0, 0)) := by have := bk bc (heap_alloc_new w _); simpa using this
    clear bc
    go_upto_region 2 with fail
    obtain ⟨Y1, g_q, eY, eg⟩ : ∃ Y g, Y = w1.alloc (.cells #[.int .i64 a, .int .i64 b, .int .i64 c, .int .i64 d] 26) ∧ g = w1.heap.size := ⟨_, _, rfl, rfl⟩
    rw [← eY, ← eg]
    have bc : Below w1.heap.size w1 Y1 := by rw [eY]; exact (Below.refl _ _).alloc (Nat.le_refl _) _
    have k_q : Y1.heap[g_q]? = some (.cells #[.int .i64 a, .int .i64 b, .int .i64 c, .int .i64 d] 26 (0, 0)) := by rw [eY, eg]; exact heap_alloc_new w1 _
    replace k_r := bk bc k_r
    replace bw := bst bc bw
    clear bc eY eg
    have q_r := q4c k_r
    have q_q := q4c k_q
    go_wp2_with fail
    refine (fine_yes a b c d HF.out _).mono ?_
    rintro e Y2 ⟨rfl, bc⟩
    clear q_r q_q
    replace k_r := bk bc k_r
    replace k_q := bk bc k_q
    replace bw := bst bc bw
    clear bc
    have q_r := q4c k_r
    have q_q := q4c k_q
    go_wp2_with fail
    refine (has_yes a b c d x y HI.out _).mono ?_
    rintro e Y3 ⟨rfl, bc⟩
    clear q_r q_q
    replace k_r := bk bc k_r
    replace k_q := bk bc k_q
    replace bw := bst bc bw
    clear bc
    have q_r := q4c k_r
    have q_q := q4c k_q
    go_wp2_with fail
    refine (has_yes a b c d u v HJ.out _).mono ?_
    rintro e Y4 ⟨rfl, bc⟩
    clear q_r q_q
    replace k_r := bk bc k_r
    replace k_q := bk bc k_q
    replace bw := bst bc bw
    clear bc
    go_upto_region 4 with fail
    go_cut [18] (fun s18 wx => ∃ (g_p : Nat) (A2 : Option Addr) (cp2 : Nat), s18 = .pointer (some ⟨g_p, 0, none⟩) ∧ wx.heap[g_p]? = some (.cells #[.int .i64 a, .int .i64 b, .int .i64 c, .int .i64 d, .int .i64 (c - a), .slice A2 N cp2] 29 (0, 0)) ∧ wx.heap[w.heap.size]? = some (.cells #[.int .i64 a, .int .i64 b, .int .i64 c, .int .i64 d] 23 (0, 0)) ∧ wx.heap[g_q]? = some (.cells #[.int .i64 a, .int .i64 b, .int .i64 c, .int .i64 d] 26 (0, 0)) ∧ Hid (Rd wx wx.heap.size A2 N (wrAt (byt N (wrAt (byt N zs) a b c d x y (z % 256))) a b c d u v (t % 256))) ∧ Hid (Below w.heap.size w wx))
    case first =>
      refine wp_region_held_drew (S := fun w' => w'.cell? ⟨g_q, 0, none⟩ = some (.int .i64 a) ∧ w'.cell? ⟨g_q, 1, none⟩ = some (.int .i64 b) ∧ w'.cell? ⟨g_q, 2, none⟩ = some (.int .i64 c) ∧ w'.cell? ⟨g_q, 3, none⟩ = some (.int .i64 d)) (by kernel_rfl) ⟨(q4c k_q).1.1, (q4c k_q).1.2.1, (q4c k_q).1.2.2.1, (q4c k_q).1.2.2.2⟩ ?_
      intro hHeld
      obtain ⟨X5, eX, bc⟩ : ∃ X, X = Y4.drew ∧ Below Y4.heap.size Y4 X := ⟨_, rfl, (Below.refl _ _).drew⟩
      rw [← eX] at hHeld ⊢
      replace k_r := bk bc k_r
      replace k_q := bk bc k_q
      replace bw := bst bc bw
      (try replace r1 := (r1.below bc).more bc.size)
      (try replace r2 := (r2.below bc).more bc.size)
      clear eX bc
      refine takx (i := 0) (D := 38) (v := .agg #[.int .i64 a, .int .i64 b, .int .i64 c, .int .i64 d]) rfl rfl (by kernel_rfl) (by kernel_rfl) (by kernel_rfl) (fun _ _ _ h => h) (Or.inl ⟨by rfl, fun W hSw => by (try dsimp only at hSw); go_simp⟩) (by assumption) ?_
      (try simp only [List.setIfInBounds_toArray, List.set_cons_zero, List.set_cons_succ])
      refine takx (i := 1) (D := 39) (v := .agg #[.int .i64 a, .int .i64 b, .int .i64 c, .int .i64 d]) rfl rfl (by kernel_rfl) (by kernel_rfl) (by kernel_rfl) (fun _ _ _ h => h) (Or.inl ⟨by rfl, fun W hSw => by (try dsimp only at hSw); go_simp⟩) (by assumption) ?_
      (try simp only [List.setIfInBounds_toArray, List.set_cons_zero, List.set_cons_succ])
      refine takx (i := 2) (D := 40) (v := .slice Z n cp) rfl rfl (by kernel_rfl) (by kernel_rfl) (by kernel_rfl) (fun _ _ _ h => h) (Or.inl ⟨by rfl, fun W hSw => by (try dsimp only at hSw); go_simp⟩) (by assumption) ?_
      (try simp only [List.setIfInBounds_toArray, List.set_cons_zero, List.set_cons_succ])
      refine takx (i := 3) (D := 41) (v := .int .i64 x) rfl rfl (by kernel_rfl) (by kernel_rfl) (by kernel_rfl) (fun _ _ _ h => h) (Or.inl ⟨by rfl, fun W hSw => by (try dsimp only at hSw); go_simp⟩) (by assumption) ?_
      (try simp only [List.setIfInBounds_toArray, List.set_cons_zero, List.set_cons_succ])
      refine takx (i := 4) (D := 42) (v := .int .i64 y) rfl rfl (by kernel_rfl) (by kernel_rfl) (by kernel_rfl) (fun _ _ _ h => h) (Or.inl ⟨by rfl, fun W hSw => by (try dsimp only at hSw); go_simp⟩) (by assumption) ?_
      (try simp only [List.setIfInBounds_toArray, List.set_cons_zero, List.set_cons_succ])
      refine takx (i := 5) (D := 43) (v := .int .i64 z) rfl rfl (by kernel_rfl) (by kernel_rfl) (by kernel_rfl) (fun _ _ _ h => h) (Or.inl ⟨by rfl, fun W hSw => by (try dsimp only at hSw); go_simp⟩) (by assumption) ?_
      (try simp only [List.setIfInBounds_toArray, List.set_cons_zero, List.set_cons_succ])
      refine takx (i := 8) (D := 46) (v := .int .i64 u) rfl rfl (by kernel_rfl) (by kernel_rfl) (by kernel_rfl) (fun _ _ _ h => h) (Or.inl ⟨by rfl, fun W hSw => by (try dsimp only at hSw); go_simp⟩) (by assumption) ?_
      (try simp only [List.setIfInBounds_toArray, List.set_cons_zero, List.set_cons_succ])
      refine takx (i := 9) (D := 47) (v := .int .i64 v) rfl rfl (by kernel_rfl) (by kernel_rfl) (by kernel_rfl) (fun _ _ _ h => h) (Or.inl ⟨by rfl, fun W hSw => by (try dsimp only at hSw); go_simp⟩) (by assumption) ?_
      (try simp only [List.setIfInBounds_toArray, List.set_cons_zero, List.set_cons_succ])
      refine takx (i := 10) (D := 48) (v := .int .i64 t) rfl rfl (by kernel_rfl) (by kernel_rfl) (by kernel_rfl) (fun _ _ _ h => h) (Or.inl ⟨by rfl, fun W hSw => by (try dsimp only at hSw); go_simp⟩) (by assumption) ?_
      (try simp only [List.setIfInBounds_toArray, List.set_cons_zero, List.set_cons_succ])
      refine wpAnyH_ready (rs := [6, 12]) (by kernel_rfl) (by simp) ?_
      refine (AllReadyH.cons rfl (fun K hK => ?_) (AllReadyH.cons rfl (fun K hK => ?_) AllReadyH.nil))
      · go_simp
        refine (grayWrite_any a b c d N h3 h4 h5 h6 HN.out n cp Z (zs) x y z _ ((HR.out.below bw).more bw.size)).mono ?_
        rintro e X6 ⟨A1, cp1, rfl, r1, lo1, bc⟩
        refine hK.out _ _ ⟨ck bc hHeld.1, ck bc hHeld.2.1, ck bc hHeld.2.2.1, ck bc hHeld.2.2.2⟩ (fun hHeld => ?_)
        clear hK K
        (try simp only [List.setIfInBounds_toArray, List.set_cons_zero, List.set_cons_succ])
        replace k_r := bk bc k_r
        replace k_q := bk bc k_q
        replace bw := bst bc bw
        (try replace r1 := (r1.below bc).more bc.size)
        (try replace r2 := (r2.below bc).more bc.size)
        clear bc
        refine takx (i := 7) (D := 45) (v := .slice A1 N cp1) rfl rfl (by kernel_rfl) (by kernel_rfl) (by kernel_rfl) (fun _ _ _ h => h) (Or.inl ⟨by rfl, fun W hSw => by (try dsimp only at hSw); go_simp⟩) (by assumption) ?_
        (try simp only [List.setIfInBounds_toArray, List.set_cons_zero, List.set_cons_succ])
        refine wpAnyH_ready (rs := [11, 12]) (by kernel_rfl) (by simp) ?_
        refine (AllReadyH.cons rfl (fun K hK => ?_) (AllReadyH.cons rfl (fun K hK => ?_) AllReadyH.nil))
        · go_simp
          refine (grayWrite_any a b c d N h3 h4 h5 h6 HN.out N cp1 A1 (wrAt (byt N zs) a b c d x y (z % 256)) u v t _ r1).mono ?_
          rintro e X7 ⟨A2, cp2, rfl, r2, lo2, bc⟩
          refine hK.out _ _ ⟨ck bc hHeld.1, ck bc hHeld.2.1, ck bc hHeld.2.2.1, ck bc hHeld.2.2.2⟩ (fun hHeld => ?_)
          clear hK K
          (try simp only [List.setIfInBounds_toArray, List.set_cons_zero, List.set_cons_succ])
          replace k_r := bk bc k_r
          replace k_q := bk bc k_q
          replace bw := bst bc bw
          (try replace r1 := (r1.below bc).more bc.size)
          (try replace r2 := (r2.below bc).more bc.size)
          clear bc
          refine wpAnyH_ready (rs := [12]) (by kernel_rfl) (by simp) ?_
          refine (AllReadyH.cons rfl (fun K hK => ?_) AllReadyH.nil)
          go_simp
          refine hK.out _ _ ⟨cka hHeld.1, cka hHeld.2.1, cka hHeld.2.2.1, cka hHeld.2.2.2⟩ (fun hHeld => ?_)
          clear hK K
          (try simp only [List.setIfInBounds_toArray, List.set_cons_zero, List.set_cons_succ])
          obtain ⟨X8, g8, eY, eg⟩ : ∃ Y g, Y = X7.alloc (.cells #[.int .i64 0, .int .i64 0, .int .i64 0, .int .i64 0, .int .i64 0, .slice none 0 0] 29) ∧ g = X7.heap.size := ⟨_, _, rfl, rfl⟩
          rw [← eY, ← eg]
          rw [← eY] at hHeld
          have bc : Below X7.heap.size X7 X8 := by rw [eY]; exact (Below.refl _ _).alloc (Nat.le_refl _) _
          have k_n18 : X8.heap[g8]? = some (.cells #[.int .i64 0, .int .i64 0, .int .i64 0, .int .i64 0, .int .i64 0, .slice none 0 0] 29 (0, 0)) := by rw [eY, eg]; exact heap_alloc_new X7 _
          have lo_n18 : w.heap.size ≤ g8 := by rw [eg]; exact bw.size
          have ne_r_n18 : ¬ w.heap.size = g8 := ne_new k_r eg
          have ne_q_n18 : ¬ g_q = g8 := ne_new k_q eg
          (try have na_r1 := Rd.ne_new r1 eg)
          (try have na_r2 := Rd.ne_new r2 eg)
          replace k_r := bk bc k_r
          replace k_q := bk bc k_q
          replace bw := bst bc bw
          (try replace r1 := (r1.below bc).more bc.size)
          (try replace r2 := (r2.below bc).more bc.size)
          clear bc eY eg
          refine wpAnyH_ready (rs := [13]) (by kernel_rfl) (by simp) ?_
          refine (AllReadyH.cons rfl (fun K hK => ?_) AllReadyH.nil)
          have qq := q6c k_n18
          go_simp
          clear qq
          refine hK.out _ _ ⟨(cks ne_q_n18 (cks ne_q_n18 (cks ne_q_n18 (cks ne_q_n18 (cks ne_q_n18 (cks ne_q_n18 hHeld.1)))))), (cks ne_q_n18 (cks ne_q_n18 (cks ne_q_n18 (cks ne_q_n18 (cks ne_q_n18 (cks ne_q_n18 hHeld.2.1)))))), (cks ne_q_n18 (cks ne_q_n18 (cks ne_q_n18 (cks ne_q_n18 (cks ne_q_n18 (cks ne_q_n18 hHeld.2.2.1)))))), (cks ne_q_n18 (cks ne_q_n18 (cks ne_q_n18 (cks ne_q_n18 (cks ne_q_n18 (cks ne_q_n18 hHeld.2.2.2))))))⟩ (fun hHeld => ?_)
          clear hK K
          (try simp only [List.setIfInBounds_toArray, List.set_cons_zero, List.set_cons_succ])
          obtain ⟨X9, eY⟩ : ∃ Y, Y = ((((((X8.setCell ⟨g8, 0, none⟩ (.int .i64 a)).setCell ⟨g8, 1, none⟩ (.int .i64 b)).setCell ⟨g8, 2, none⟩ (.int .i64 c)).setCell ⟨g8, 3, none⟩ (.int .i64 d)).setCell ⟨g8, 4, none⟩ (.int .i64 (c - a))).setCell ⟨g8, 5, none⟩ (.slice A2 N cp2)) := ⟨_, rfl⟩
          rw [← eY] at hHeld ⊢
          replace k_r : X9.heap[w.heap.size]? = some (.cells #[.int .i64 a, .int .i64 b, .int .i64 c, .int .i64 d] 23 (0, 0)) := by rw [eY]; exact (bks ne_r_n18 (bks ne_r_n18 (bks ne_r_n18 (bks ne_r_n18 (bks ne_r_n18 (bks ne_r_n18 k_r))))))
          replace k_q : X9.heap[g_q]? = some (.cells #[.int .i64 a, .int .i64 b, .int .i64 c, .int .i64 d] 26 (0, 0)) := by rw [eY]; exact (bks ne_q_n18 (bks ne_q_n18 (bks ne_q_n18 (bks ne_q_n18 (bks ne_q_n18 (bks ne_q_n18 k_q))))))
          replace bw : Below w.heap.size w X9 := by rw [eY]; exact (bss lo_n18 (bss lo_n18 (bss lo_n18 (bss lo_n18 (bss lo_n18 (bss lo_n18 bw))))))
          replace k_n18 : X9.heap[g8]? = some (.cells #[.int .i64 a, .int .i64 b, .int .i64 c, .int .i64 d, .int .i64 (c - a), .slice A2 N cp2] 29 (0, 0)) := by rw [eY]; exact q6s k_n18
          (try replace r1 := Rd.sized (W := X9) (Rd.sset na_r1 (Rd.sset na_r1 (Rd.sset na_r1 (Rd.sset na_r1 (Rd.sset na_r1 (Rd.sset na_r1 r1)))))) eY)
          (try replace r2 := Rd.sized (W := X9) (Rd.sset na_r2 (Rd.sset na_r2 (Rd.sset na_r2 (Rd.sset na_r2 (Rd.sset na_r2 (Rd.sset na_r2 r2)))))) eY)
          clear eY
          refine wpAnyH_done (by kernel_rfl) ?_ _
          go_wp2_with fail
          go_meet
          exact ⟨_, A2, cp2, rfl, k_n18, k_r, k_q, r2, bw⟩
        · go_simp
          refine hK.out _ _ ⟨cka hHeld.1, cka hHeld.2.1, cka hHeld.2.2.1, cka hHeld.2.2.2⟩ (fun hHeld => ?_)
          clear hK K
          (try simp only [List.setIfInBounds_toArray, List.set_cons_zero, List.set_cons_succ])
          obtain ⟨X10, g10, eY, eg⟩ : ∃ Y g, Y = X6.alloc (.cells #[.int .i64 0, .int .i64 0, .int .i64 0, .int .i64 0, .int .i64 0, .slice none 0 0] 29) ∧ g = X6.heap.size := ⟨_, _, rfl, rfl⟩
          rw [← eY, ← eg]
          rw [← eY] at hHeld
          have bc : Below X6.heap.size X6 X10 := by rw [eY]; exact (Below.refl _ _).alloc (Nat.le_refl _) _
          have k_n18 : X10.heap[g10]? = some (.cells #[.int .i64 0, .int .i64 0, .int .i64 0, .int .i64 0, .int .i64 0, .slice none 0 0] 29 (0, 0)) := by rw [eY, eg]; exact heap_alloc_new X6 _
          have lo_n18 : w.heap.size ≤ g10 := by rw [eg]; exact bw.size
          have ne_r_n18 : ¬ w.heap.size = g10 := ne_new k_r eg
          have ne_q_n18 : ¬ g_q = g10 := ne_new k_q eg
          (try have na_r1 := Rd.ne_new r1 eg)
          (try have na_r2 := Rd.ne_new r2 eg)
          replace k_r := bk bc k_r
          replace k_q := bk bc k_q
          replace bw := bst bc bw
          (try replace r1 := (r1.below bc).more bc.size)
          (try replace r2 := (r2.below bc).more bc.size)
          clear bc eY eg
          refine wpAnyH_ready (rs := [11]) (by kernel_rfl) (by simp) ?_
          refine (AllReadyH.cons rfl (fun K hK => ?_) AllReadyH.nil)
          go_simp
          refine (grayWrite_any a b c d N h3 h4 h5 h6 HN.out N cp1 A1 (wrAt (byt N zs) a b c d x y (z % 256)) u v t _ r1).mono ?_
          rintro e X11 ⟨A2, cp2, rfl, r2, lo2, bc⟩
          refine hK.out _ _ ⟨ck bc hHeld.1, ck bc hHeld.2.1, ck bc hHeld.2.2.1, ck bc hHeld.2.2.2⟩ (fun hHeld => ?_)
          clear hK K
          (try simp only [List.setIfInBounds_toArray, List.set_cons_zero, List.set_cons_succ])
          have na_r2 := lo_ne (n := N) lo2 k_n18
          replace k_r := bk bc k_r
          replace k_q := bk bc k_q
          replace k_n18 := bk bc k_n18
          replace bw := bst bc bw
          (try replace r1 := (r1.below bc).more bc.size)
          (try replace r2 := (r2.below bc).more bc.size)
          clear bc
          refine wpAnyH_ready (rs := [13]) (by kernel_rfl) (by simp) ?_
          refine (AllReadyH.cons rfl (fun K hK => ?_) AllReadyH.nil)
          have qq := q6c k_n18
          go_simp
          clear qq
          refine hK.out _ _ ⟨(cks ne_q_n18 (cks ne_q_n18 (cks ne_q_n18 (cks ne_q_n18 (cks ne_q_n18 (cks ne_q_n18 hHeld.1)))))), (cks ne_q_n18 (cks ne_q_n18 (cks ne_q_n18 (cks ne_q_n18 (cks ne_q_n18 (cks ne_q_n18 hHeld.2.1)))))), (cks ne_q_n18 (cks ne_q_n18 (cks ne_q_n18 (cks ne_q_n18 (cks ne_q_n18 (cks ne_q_n18 hHeld.2.2.1)))))), (cks ne_q_n18 (cks ne_q_n18 (cks ne_q_n18 (cks ne_q_n18 (cks ne_q_n18 (cks ne_q_n18 hHeld.2.2.2))))))⟩ (fun hHeld => ?_)
          clear hK K
          (try simp only [List.setIfInBounds_toArray, List.set_cons_zero, List.set_cons_succ])
          obtain ⟨X12, eY⟩ : ∃ Y, Y = ((((((X11.setCell ⟨g10, 0, none⟩ (.int .i64 a)).setCell ⟨g10, 1, none⟩ (.int .i64 b)).setCell ⟨g10, 2, none⟩ (.int .i64 c)).setCell ⟨g10, 3, none⟩ (.int .i64 d)).setCell ⟨g10, 4, none⟩ (.int .i64 (c - a))).setCell ⟨g10, 5, none⟩ (.slice A2 N cp2)) := ⟨_, rfl⟩
          rw [← eY] at hHeld ⊢
          replace k_r : X12.heap[w.heap.size]? = some (.cells #[.int .i64 a, .int .i64 b, .int .i64 c, .int .i64 d] 23 (0, 0)) := by rw [eY]; exact (bks ne_r_n18 (bks ne_r_n18 (bks ne_r_n18 (bks ne_r_n18 (bks ne_r_n18 (bks ne_r_n18 k_r))))))
          replace k_q : X12.heap[g_q]? = some (.cells #[.int .i64 a, .int .i64 b, .int .i64 c, .int .i64 d] 26 (0, 0)) := by rw [eY]; exact (bks ne_q_n18 (bks ne_q_n18 (bks ne_q_n18 (bks ne_q_n18 (bks ne_q_n18 (bks ne_q_n18 k_q))))))
          replace bw : Below w.heap.size w X12 := by rw [eY]; exact (bss lo_n18 (bss lo_n18 (bss lo_n18 (bss lo_n18 (bss lo_n18 (bss lo_n18 bw))))))
          replace k_n18 : X12.heap[g10]? = some (.cells #[.int .i64 a, .int .i64 b, .int .i64 c, .int .i64 d, .int .i64 (c - a), .slice A2 N cp2] 29 (0, 0)) := by rw [eY]; exact q6s k_n18
          (try replace r1 := Rd.sized (W := X12) (Rd.sset na_r1 (Rd.sset na_r1 (Rd.sset na_r1 (Rd.sset na_r1 (Rd.sset na_r1 (Rd.sset na_r1 r1)))))) eY)
          (try replace r2 := Rd.sized (W := X12) (Rd.sset na_r2 (Rd.sset na_r2 (Rd.sset na_r2 (Rd.sset na_r2 (Rd.sset na_r2 (Rd.sset na_r2 r2)))))) eY)
          clear eY
          refine wpAnyH_done (by kernel_rfl) ?_ _
          go_wp2_with fail
          go_meet
          exact ⟨_, A2, cp2, rfl, k_n18, k_r, k_q, r2, bw⟩
      · go_simp
        refine hK.out _ _ ⟨cka hHeld.1, cka hHeld.2.1, cka hHeld.2.2.1, cka hHeld.2.2.2⟩ (fun hHeld => ?_)
        clear hK K
        (try simp only [List.setIfInBounds_toArray, List.set_cons_zero, List.set_cons_succ])
        obtain ⟨X13, g13, eY, eg⟩ : ∃ Y g, Y = X5.alloc (.cells #[.int .i64 0, .int .i64 0, .int .i64 0, .int .i64 0, .int .i64 0, .slice none 0 0] 29) ∧ g = X5.heap.size := ⟨_, _, rfl, rfl⟩
        rw [← eY, ← eg]
        rw [← eY] at hHeld
        have bc : Below X5.heap.size X5 X13 := by rw [eY]; exact (Below.refl _ _).alloc (Nat.le_refl _) _
        have k_n18 : X13.heap[g13]? = some (.cells #[.int .i64 0, .int .i64 0, .int .i64 0, .int .i64 0, .int .i64 0, .slice none 0 0] 29 (0, 0)) := by rw [eY, eg]; exact heap_alloc_new X5 _
        have lo_n18 : w.heap.size ≤ g13 := by rw [eg]; exact bw.size
        have ne_r_n18 : ¬ w.heap.size = g13 := ne_new k_r eg
        have ne_q_n18 : ¬ g_q = g13 := ne_new k_q eg
        (try have na_r1 := Rd.ne_new r1 eg)
        (try have na_r2 := Rd.ne_new r2 eg)
        replace k_r := bk bc k_r
        replace k_q := bk bc k_q
        replace bw := bst bc bw
        (try replace r1 := (r1.below bc).more bc.size)
        (try replace r2 := (r2.below bc).more bc.size)
        clear bc eY eg
        refine wpAnyH_ready (rs := [6]) (by kernel_rfl) (by simp) ?_
        refine (AllReadyH.cons rfl (fun K hK => ?_) AllReadyH.nil)
        go_simp
        refine (grayWrite_any a b c d N h3 h4 h5 h6 HN.out n cp Z (zs) x y z _ ((HR.out.below bw).more bw.size)).mono ?_
        rintro e X14 ⟨A1, cp1, rfl, r1, lo1, bc⟩
        refine hK.out _ _ ⟨ck bc hHeld.1, ck bc hHeld.2.1, ck bc hHeld.2.2.1, ck bc hHeld.2.2.2⟩ (fun hHeld => ?_)
        clear hK K
        (try simp only [List.setIfInBounds_toArray, List.set_cons_zero, List.set_cons_succ])
        have na_r1 := lo_ne (n := N) lo1 k_n18
        replace k_r := bk bc k_r
        replace k_q := bk bc k_q
        replace k_n18 := bk bc k_n18
        replace bw := bst bc bw
        (try replace r1 := (r1.below bc).more bc.size)
        (try replace r2 := (r2.below bc).more bc.size)
        clear bc
        refine takx (i := 7) (D := 45) (v := .slice A1 N cp1) rfl rfl (by kernel_rfl) (by kernel_rfl) (by kernel_rfl) (fun _ _ _ h => h) (Or.inl ⟨by rfl, fun W hSw => by (try dsimp only at hSw); go_simp⟩) (by assumption) ?_
        (try simp only [List.setIfInBounds_toArray, List.set_cons_zero, List.set_cons_succ])
        refine wpAnyH_ready (rs := [11]) (by kernel_rfl) (by simp) ?_
        refine (AllReadyH.cons rfl (fun K hK => ?_) AllReadyH.nil)
        go_simp
        refine (grayWrite_any a b c d N h3 h4 h5 h6 HN.out N cp1 A1 (wrAt (byt N zs) a b c d x y (z % 256)) u v t _ r1).mono ?_
        rintro e X15 ⟨A2, cp2, rfl, r2, lo2, bc⟩
        refine hK.out _ _ ⟨ck bc hHeld.1, ck bc hHeld.2.1, ck bc hHeld.2.2.1, ck bc hHeld.2.2.2⟩ (fun hHeld => ?_)
        clear hK K
        (try simp only [List.setIfInBounds_toArray, List.set_cons_zero, List.set_cons_succ])
        have na_r2 := lo_ne (n := N) lo2 k_n18
        replace k_r := bk bc k_r
        replace k_q := bk bc k_q
        replace k_n18 := bk bc k_n18
        replace bw := bst bc bw
        (try replace r1 := (r1.below bc).more bc.size)
        (try replace r2 := (r2.below bc).more bc.size)
        clear bc
        refine wpAnyH_ready (rs := [13]) (by kernel_rfl) (by simp) ?_
        refine (AllReadyH.cons rfl (fun K hK => ?_) AllReadyH.nil)
        have qq := q6c k_n18
        go_simp
        clear qq
        refine hK.out _ _ ⟨(cks ne_q_n18 (cks ne_q_n18 (cks ne_q_n18 (cks ne_q_n18 (cks ne_q_n18 (cks ne_q_n18 hHeld.1)))))), (cks ne_q_n18 (cks ne_q_n18 (cks ne_q_n18 (cks ne_q_n18 (cks ne_q_n18 (cks ne_q_n18 hHeld.2.1)))))), (cks ne_q_n18 (cks ne_q_n18 (cks ne_q_n18 (cks ne_q_n18 (cks ne_q_n18 (cks ne_q_n18 hHeld.2.2.1)))))), (cks ne_q_n18 (cks ne_q_n18 (cks ne_q_n18 (cks ne_q_n18 (cks ne_q_n18 (cks ne_q_n18 hHeld.2.2.2))))))⟩ (fun hHeld => ?_)
        clear hK K
        (try simp only [List.setIfInBounds_toArray, List.set_cons_zero, List.set_cons_succ])
        obtain ⟨X16, eY⟩ : ∃ Y, Y = ((((((X15.setCell ⟨g13, 0, none⟩ (.int .i64 a)).setCell ⟨g13, 1, none⟩ (.int .i64 b)).setCell ⟨g13, 2, none⟩ (.int .i64 c)).setCell ⟨g13, 3, none⟩ (.int .i64 d)).setCell ⟨g13, 4, none⟩ (.int .i64 (c - a))).setCell ⟨g13, 5, none⟩ (.slice A2 N cp2)) := ⟨_, rfl⟩
        rw [← eY] at hHeld ⊢
        replace k_r : X16.heap[w.heap.size]? = some (.cells #[.int .i64 a, .int .i64 b, .int .i64 c, .int .i64 d] 23 (0, 0)) := by rw [eY]; exact (bks ne_r_n18 (bks ne_r_n18 (bks ne_r_n18 (bks ne_r_n18 (bks ne_r_n18 (bks ne_r_n18 k_r))))))
        replace k_q : X16.heap[g_q]? = some (.cells #[.int .i64 a, .int .i64 b, .int .i64 c, .int .i64 d] 26 (0, 0)) := by rw [eY]; exact (bks ne_q_n18 (bks ne_q_n18 (bks ne_q_n18 (bks ne_q_n18 (bks ne_q_n18 (bks ne_q_n18 k_q))))))
        replace bw : Below w.heap.size w X16 := by rw [eY]; exact (bss lo_n18 (bss lo_n18 (bss lo_n18 (bss lo_n18 (bss lo_n18 (bss lo_n18 bw))))))
        replace k_n18 : X16.heap[g13]? = some (.cells #[.int .i64 a, .int .i64 b, .int .i64 c, .int .i64 d, .int .i64 (c - a), .slice A2 N cp2] 29 (0, 0)) := by rw [eY]; exact q6s k_n18
        (try replace r1 := Rd.sized (W := X16) (Rd.sset na_r1 (Rd.sset na_r1 (Rd.sset na_r1 (Rd.sset na_r1 (Rd.sset na_r1 (Rd.sset na_r1 r1)))))) eY)
        (try replace r2 := Rd.sized (W := X16) (Rd.sset na_r2 (Rd.sset na_r2 (Rd.sset na_r2 (Rd.sset na_r2 (Rd.sset na_r2 (Rd.sset na_r2 r2)))))) eY)
        clear eY
        refine wpAnyH_done (by kernel_rfl) ?_ _
        go_wp2_with fail
        go_meet
        exact ⟨_, A2, cp2, rfl, k_n18, k_r, k_q, r2, bw⟩
    case rest =>
      clear k_r k_q bw
      obtain ⟨g_p, A2, cp2, rfl, k_p, k_r, k_q, R2, BW⟩ := hcut
      have bw := BW.out
      clear BW
      have r2 := R2.out
      clear R2
      have q_r := q4c k_r
      have q_q := q4c k_q
      have q_p := q6c k_p
      go_upto_region 9 with fail
      clear q_r q_q q_p
      refine wp_region_held_drew (S := fun w' => w'.cell? ⟨g_q, 0, none⟩ = some (.int .i64 a) ∧ w'.cell? ⟨g_q, 1, none⟩ = some (.int .i64 b) ∧ w'.cell? ⟨g_q, 2, none⟩ = some (.int .i64 c) ∧ w'.cell? ⟨g_q, 3, none⟩ = some (.int .i64 d) ∧ w'.cell? ⟨g_p, 0, none⟩ = some (.int .i64 a) ∧ w'.cell? ⟨g_p, 1, none⟩ = some (.int .i64 b) ∧ w'.cell? ⟨g_p, 2, none⟩ = some (.int .i64 c) ∧ w'.cell? ⟨g_p, 3, none⟩ = some (.int .i64 d) ∧ w'.cell? ⟨g_p, 4, none⟩ = some (.int .i64 (c - a)) ∧ w'.cell? ⟨g_p, 5, none⟩ = some (.slice A2 N cp2)) (by kernel_rfl) ⟨(q4c k_q).1.1, (q4c k_q).1.2.1, (q4c k_q).1.2.2.1, (q4c k_q).1.2.2.2, (q6c k_p).1.1, (q6c k_p).1.2.1, (q6c k_p).1.2.2.1, (q6c k_p).1.2.2.2.1, (q6c k_p).1.2.2.2.2.1, (q6c k_p).1.2.2.2.2.2⟩ ?_
      intro hHeld
      obtain ⟨X18, eX, bc⟩ : ∃ X, X = wc.drew ∧ Below wc.heap.size wc X := ⟨_, rfl, (Below.refl _ _).drew⟩
      rw [← eX] at hHeld ⊢
      replace k_r := bk bc k_r
      replace k_q := bk bc k_q
      replace k_p := bk bc k_p
      replace bw := bst bc bw
      (try replace r2 := (r2.below bc).more bc.size)
      (try replace r3 := (r3.below bc).more bc.size)
      (try replace r4 := (r4.below bc).more bc.size)
      clear eX bc
      refine takx (i := 0) (D := 70) (v := .agg #[.int .i64 a, .int .i64 b, .int .i64 c, .int .i64 d, .int .i64 (c - a), .slice A2 N cp2]) rfl rfl (by kernel_rfl) (by kernel_rfl) (by kernel_rfl) (fun _ _ _ h => h) (Or.inl ⟨by rfl, fun W hSw => by (try dsimp only at hSw); go_simp⟩) (by assumption) ?_
      (try simp only [List.setIfInBounds_toArray, List.set_cons_zero, List.set_cons_succ])
      refine takx (i := 1) (D := 71) (v := .agg #[.int .i64 a, .int .i64 b, .int .i64 c, .int .i64 d]) rfl rfl (by kernel_rfl) (by kernel_rfl) (by kernel_rfl) (fun _ _ _ h => h) (Or.inl ⟨by rfl, fun W hSw => by (try dsimp only at hSw); go_simp⟩) (by assumption) ?_
      (try simp only [List.setIfInBounds_toArray, List.set_cons_zero, List.set_cons_succ])
      refine takx (i := 2) (D := 72) (v := .agg #[.int .i64 a, .int .i64 b, .int .i64 c, .int .i64 d]) rfl rfl (by kernel_rfl) (by kernel_rfl) (by kernel_rfl) (fun _ _ _ h => h) (Or.inl ⟨by rfl, fun W hSw => by (try dsimp only at hSw); go_simp⟩) (by assumption) ?_
      (try simp only [List.setIfInBounds_toArray, List.set_cons_zero, List.set_cons_succ])
      refine takx (i := 3) (D := 73) (v := .slice Z n cp) rfl rfl (by kernel_rfl) (by kernel_rfl) (by kernel_rfl) (fun _ _ _ h => h) (Or.inl ⟨by rfl, fun W hSw => by (try dsimp only at hSw); go_simp⟩) (by assumption) ?_
      (try simp only [List.setIfInBounds_toArray, List.set_cons_zero, List.set_cons_succ])
      refine takx (i := 4) (D := 74) (v := .int .i64 u) rfl rfl (by kernel_rfl) (by kernel_rfl) (by kernel_rfl) (fun _ _ _ h => h) (Or.inl ⟨by rfl, fun W hSw => by (try dsimp only at hSw); go_simp⟩) (by assumption) ?_
      (try simp only [List.setIfInBounds_toArray, List.set_cons_zero, List.set_cons_succ])
      refine takx (i := 5) (D := 75) (v := .int .i64 v) rfl rfl (by kernel_rfl) (by kernel_rfl) (by kernel_rfl) (fun _ _ _ h => h) (Or.inl ⟨by rfl, fun W hSw => by (try dsimp only at hSw); go_simp⟩) (by assumption) ?_
      (try simp only [List.setIfInBounds_toArray, List.set_cons_zero, List.set_cons_succ])
      refine takx (i := 6) (D := 76) (v := .int .i64 t) rfl rfl (by kernel_rfl) (by kernel_rfl) (by kernel_rfl) (fun _ _ _ h => h) (Or.inl ⟨by rfl, fun W hSw => by (try dsimp only at hSw); go_simp⟩) (by assumption) ?_
      (try simp only [List.setIfInBounds_toArray, List.set_cons_zero, List.set_cons_succ])
      refine takx (i := 9) (D := 79) (v := .int .i64 x) rfl rfl (by kernel_rfl) (by kernel_rfl) (by kernel_rfl) (fun _ _ _ h => h) (Or.inl ⟨by rfl, fun W hSw => by (try dsimp only at hSw); go_simp⟩) (by assumption) ?_
      (try simp only [List.setIfInBounds_toArray, List.set_cons_zero, List.set_cons_succ])
      refine takx (i := 10) (D := 80) (v := .int .i64 y) rfl rfl (by kernel_rfl) (by kernel_rfl) (by kernel_rfl) (fun _ _ _ h => h) (Or.inl ⟨by rfl, fun W hSw => by (try dsimp only at hSw); go_simp⟩) (by assumption) ?_
      (try simp only [List.setIfInBounds_toArray, List.set_cons_zero, List.set_cons_succ])
      refine takx (i := 11) (D := 81) (v := .int .i64 z) rfl rfl (by kernel_rfl) (by kernel_rfl) (by kernel_rfl) (fun _ _ _ h => h) (Or.inl ⟨by rfl, fun W hSw => by (try dsimp only at hSw); go_simp⟩) (by assumption) ?_
      (try simp only [List.setIfInBounds_toArray, List.set_cons_zero, List.set_cons_succ])
      refine wpAnyH_ready (rs := [7]) (by kernel_rfl) (by simp) ?_
      refine (AllReadyH.cons rfl (fun K hK => ?_) AllReadyH.nil)
      go_simp
      refine (grayWrite_any a b c d N h3 h4 h5 h6 HN.out n cp Z (zs) u v t _ ((HR.out.below bw).more bw.size)).mono ?_
      rintro e X19 ⟨A3, cp3, rfl, r3, lo3, bc⟩
      refine hK.out _ _ ⟨ck bc hHeld.1, ck bc hHeld.2.1, ck bc hHeld.2.2.1, ck bc hHeld.2.2.2.1, ck bc hHeld.2.2.2.2.1, ck bc hHeld.2.2.2.2.2.1, ck bc hHeld.2.2.2.2.2.2.1, ck bc hHeld.2.2.2.2.2.2.2.1, ck bc hHeld.2.2.2.2.2.2.2.2.1, ck bc hHeld.2.2.2.2.2.2.2.2.2⟩ (fun hHeld => ?_)
      clear hK K
      (try simp only [List.setIfInBounds_toArray, List.set_cons_zero, List.set_cons_succ])
      replace k_r := bk bc k_r
      replace k_q := bk bc k_q
      replace k_p := bk bc k_p
      replace bw := bst bc bw
      (try replace r2 := (r2.below bc).more bc.size)
      (try replace r3 := (r3.below bc).more bc.size)
      (try replace r4 := (r4.below bc).more bc.size)
      clear bc
      refine takx (i := 8) (D := 78) (v := .slice A3 N cp3) rfl rfl (by kernel_rfl) (by kernel_rfl) (by kernel_rfl) (fun _ _ _ h => h) (Or.inl ⟨by rfl, fun W hSw => by (try dsimp only at hSw); go_simp⟩) (by assumption) ?_
      (try simp only [List.setIfInBounds_toArray, List.set_cons_zero, List.set_cons_succ])
      refine wpAnyH_ready (rs := [12]) (by kernel_rfl) (by simp) ?_
      refine (AllReadyH.cons rfl (fun K hK => ?_) AllReadyH.nil)
      go_simp
      refine (grayWrite_any a b c d N h3 h4 h5 h6 HN.out N cp3 A3 (wrAt (byt N zs) a b c d u v (t % 256)) x y z _ r3).mono ?_
      rintro e X20 ⟨A4, cp4, rfl, r4, lo4, bc⟩
      refine hK.out _ _ ⟨ck bc hHeld.1, ck bc hHeld.2.1, ck bc hHeld.2.2.1, ck bc hHeld.2.2.2.1, ck bc hHeld.2.2.2.2.1, ck bc hHeld.2.2.2.2.2.1, ck bc hHeld.2.2.2.2.2.2.1, ck bc hHeld.2.2.2.2.2.2.2.1, ck bc hHeld.2.2.2.2.2.2.2.2.1, ck bc hHeld.2.2.2.2.2.2.2.2.2⟩ (fun hHeld => ?_)
      clear hK K
      (try simp only [List.setIfInBounds_toArray, List.set_cons_zero, List.set_cons_succ])
      replace k_r := bk bc k_r
      replace k_q := bk bc k_q
      replace k_p := bk bc k_p
      replace bw := bst bc bw
      (try replace r2 := (r2.below bc).more bc.size)
      (try replace r3 := (r3.below bc).more bc.size)
      (try replace r4 := (r4.below bc).more bc.size)
      clear bc
      refine wpAnyH_ready (rs := [13]) (by kernel_rfl) (by simp) ?_
      refine (AllReadyH.cons rfl (fun K hK => ?_) AllReadyH.nil)
      go_simp
      refine (samePic_true _ _ _ _ _ _ _ _ _ _ (wrAt (wrAt (byt N zs) a b c d u v (t % 256)) a b c d x y (z % 256)) _ (by have := r2; rw [(byt_self (by rw [wrAt_length, byt_length]) (wrAt_ok (byt_ok _ _) (by omega) (by omega))), wr_wr_other HN.out HI.out HJ.out HXY.out] at this; exact this) (by have := r4; rw [(byt_self (by rw [wrAt_length, byt_length]) (wrAt_ok (byt_ok _ _) (by omega) (by omega)))] at this; exact this)).mono ?_
      rintro e X21 ⟨rfl, bc⟩
      refine hK.out _ _ ⟨ck bc hHeld.1, ck bc hHeld.2.1, ck bc hHeld.2.2.1, ck bc hHeld.2.2.2.1, ck bc hHeld.2.2.2.2.1, ck bc hHeld.2.2.2.2.2.1, ck bc hHeld.2.2.2.2.2.2.1, ck bc hHeld.2.2.2.2.2.2.2.1, ck bc hHeld.2.2.2.2.2.2.2.2.1, ck bc hHeld.2.2.2.2.2.2.2.2.2⟩ (fun hHeld => ?_)
      clear hK K
      (try simp only [List.setIfInBounds_toArray, List.set_cons_zero, List.set_cons_succ])
      replace k_r := bk bc k_r
      replace k_q := bk bc k_q
      replace k_p := bk bc k_p
      replace bw := bst bc bw
      (try replace r2 := (r2.below bc).more bc.size)
      (try replace r3 := (r3.below bc).more bc.size)
      (try replace r4 := (r4.below bc).more bc.size)
      clear bc
      refine takx (i := 14) (D := 16) (v := .bool true) rfl rfl (by kernel_rfl) (by kernel_rfl) (by kernel_rfl) (fun _ _ _ h => h) (Or.inl ⟨by rfl, fun W hSw => by (try dsimp only at hSw); go_simp⟩) (by assumption) ?_
      (try simp only [List.setIfInBounds_toArray, List.set_cons_zero, List.set_cons_succ])
      refine wpAnyH_done (by kernel_rfl) ?_ _
      clear hHeld
      go_wp2
      go_ret
      exact ⟨rfl, bw⟩
  have t1 : (x == u) = false := by simpa using hx1
  clear hxy hx1
  go_enter Try.func11, Try.ntmps11
  go_wp2_with fail
  refine (toRect4 a b c d _).mono ?_
  rintro e w1 ⟨rfl, bc⟩
  have bw := bst bc (bsa (Below.refl _ _))
  have k_r : w1.heap[w.heap.size]? = some (.cells #[.int .i64 a, .int .i64 b, .int .i64 c, .int .i64 d] 23 (0, 0)) := by have := bk bc (heap_alloc_new w _); simpa using this
  clear bc
  go_upto_region 2 with fail
  obtain ⟨Y1, g_q, eY, eg⟩ : ∃ Y g, Y = w1.alloc (.cells #[.int .i64 a, .int .i64 b, .int .i64 c, .int .i64 d] 26) ∧ g = w1.heap.size := ⟨_, _, rfl, rfl⟩
  rw [← eY, ← eg]
  have bc : Below w1.heap.size w1 Y1 := by rw [eY]; exact (Below.refl _ _).alloc (Nat.le_refl _) _
  have k_q : Y1.heap[g_q]? = some (.cells #[.int .i64 a, .int .i64 b, .int .i64 c, .int .i64 d] 26 (0, 0)) := by rw [eY, eg]; exact heap_alloc_new w1 _
  replace k_r := bk bc k_r
  replace bw := bst bc bw
  clear bc eY eg
  have q_r := q4c k_r
  have q_q := q4c k_q
  go_wp2_with fail
  refine (fine_yes a b c d HF.out _).mono ?_
  rintro e Y2 ⟨rfl, bc⟩
  clear q_r q_q
  replace k_r := bk bc k_r
  replace k_q := bk bc k_q
  replace bw := bst bc bw
  clear bc
  have q_r := q4c k_r
  have q_q := q4c k_q
  go_wp2_with fail
  refine (has_yes a b c d x y HI.out _).mono ?_
  rintro e Y3 ⟨rfl, bc⟩
  clear q_r q_q
  replace k_r := bk bc k_r
  replace k_q := bk bc k_q
  replace bw := bst bc bw
  clear bc
  have q_r := q4c k_r
  have q_q := q4c k_q
  go_wp2_with fail
  refine (has_yes a b c d u v HJ.out _).mono ?_
  rintro e Y4 ⟨rfl, bc⟩
  clear q_r q_q
  replace k_r := bk bc k_r
  replace k_q := bk bc k_q
  replace bw := bst bc bw
  clear bc
  go_upto_region 4 with fail
  go_cut [18] (fun s18 wx => ∃ (g_p : Nat) (A2 : Option Addr) (cp2 : Nat), s18 = .pointer (some ⟨g_p, 0, none⟩) ∧ wx.heap[g_p]? = some (.cells #[.int .i64 a, .int .i64 b, .int .i64 c, .int .i64 d, .int .i64 (c - a), .slice A2 N cp2] 29 (0, 0)) ∧ wx.heap[w.heap.size]? = some (.cells #[.int .i64 a, .int .i64 b, .int .i64 c, .int .i64 d] 23 (0, 0)) ∧ wx.heap[g_q]? = some (.cells #[.int .i64 a, .int .i64 b, .int .i64 c, .int .i64 d] 26 (0, 0)) ∧ Hid (Rd wx wx.heap.size A2 N (wrAt (byt N (wrAt (byt N zs) a b c d x y (z % 256))) a b c d u v (t % 256))) ∧ Hid (Below w.heap.size w wx))
  case first =>
    refine wp_region_held_drew (S := fun w' => w'.cell? ⟨g_q, 0, none⟩ = some (.int .i64 a) ∧ w'.cell? ⟨g_q, 1, none⟩ = some (.int .i64 b) ∧ w'.cell? ⟨g_q, 2, none⟩ = some (.int .i64 c) ∧ w'.cell? ⟨g_q, 3, none⟩ = some (.int .i64 d)) (by kernel_rfl) ⟨(q4c k_q).1.1, (q4c k_q).1.2.1, (q4c k_q).1.2.2.1, (q4c k_q).1.2.2.2⟩ ?_
    intro hHeld
    obtain ⟨X5, eX, bc⟩ : ∃ X, X = Y4.drew ∧ Below Y4.heap.size Y4 X := ⟨_, rfl, (Below.refl _ _).drew⟩
    rw [← eX] at hHeld ⊢
    replace k_r := bk bc k_r
    replace k_q := bk bc k_q
    replace bw := bst bc bw
    (try replace r1 := (r1.below bc).more bc.size)
    (try replace r2 := (r2.below bc).more bc.size)
    clear eX bc
    refine takx (i := 0) (D := 38) (v := .agg #[.int .i64 a, .int .i64 b, .int .i64 c, .int .i64 d]) rfl rfl (by kernel_rfl) (by kernel_rfl) (by kernel_rfl) (fun _ _ _ h => h) (Or.inl ⟨by rfl, fun W hSw => by (try dsimp only at hSw); go_simp⟩) (by assumption) ?_
    (try simp only [List.setIfInBounds_toArray, List.set_cons_zero, List.set_cons_succ])
    refine takx (i := 1) (D := 39) (v := .agg #[.int .i64 a, .int .i64 b, .int .i64 c, .int .i64 d]) rfl rfl (by kernel_rfl) (by kernel_rfl) (by kernel_rfl) (fun _ _ _ h => h) (Or.inl ⟨by rfl, fun W hSw => by (try dsimp only at hSw); go_simp⟩) (by assumption) ?_
    (try simp only [List.setIfInBounds_toArray, List.set_cons_zero, List.set_cons_succ])
    refine takx (i := 2) (D := 40) (v := .slice Z n cp) rfl rfl (by kernel_rfl) (by kernel_rfl) (by kernel_rfl) (fun _ _ _ h => h) (Or.inl ⟨by rfl, fun W hSw => by (try dsimp only at hSw); go_simp⟩) (by assumption) ?_
    (try simp only [List.setIfInBounds_toArray, List.set_cons_zero, List.set_cons_succ])
    refine takx (i := 3) (D := 41) (v := .int .i64 x) rfl rfl (by kernel_rfl) (by kernel_rfl) (by kernel_rfl) (fun _ _ _ h => h) (Or.inl ⟨by rfl, fun W hSw => by (try dsimp only at hSw); go_simp⟩) (by assumption) ?_
    (try simp only [List.setIfInBounds_toArray, List.set_cons_zero, List.set_cons_succ])
    refine takx (i := 4) (D := 42) (v := .int .i64 y) rfl rfl (by kernel_rfl) (by kernel_rfl) (by kernel_rfl) (fun _ _ _ h => h) (Or.inl ⟨by rfl, fun W hSw => by (try dsimp only at hSw); go_simp⟩) (by assumption) ?_
    (try simp only [List.setIfInBounds_toArray, List.set_cons_zero, List.set_cons_succ])
    refine takx (i := 5) (D := 43) (v := .int .i64 z) rfl rfl (by kernel_rfl) (by kernel_rfl) (by kernel_rfl) (fun _ _ _ h => h) (Or.inl ⟨by rfl, fun W hSw => by (try dsimp only at hSw); go_simp⟩) (by assumption) ?_
    (try simp only [List.setIfInBounds_toArray, List.set_cons_zero, List.set_cons_succ])
    refine takx (i := 8) (D := 46) (v := .int .i64 u) rfl rfl (by kernel_rfl) (by kernel_rfl) (by kernel_rfl) (fun _ _ _ h => h) (Or.inl ⟨by rfl, fun W hSw => by (try dsimp only at hSw); go_simp⟩) (by assumption) ?_
    (try simp only [List.setIfInBounds_toArray, List.set_cons_zero, List.set_cons_succ])
    refine takx (i := 9) (D := 47) (v := .int .i64 v) rfl rfl (by kernel_rfl) (by kernel_rfl) (by kernel_rfl) (fun _ _ _ h => h) (Or.inl ⟨by rfl, fun W hSw => by (try dsimp only at hSw); go_simp⟩) (by assumption) ?_
    (try simp only [List.setIfInBounds_toArray, List.set_cons_zero, List.set_cons_succ])
    refine takx (i := 10) (D := 48) (v := .int .i64 t) rfl rfl (by kernel_rfl) (by kernel_rfl) (by kernel_rfl) (fun _ _ _ h => h) (Or.inl ⟨by rfl, fun W hSw => by (try dsimp only at hSw); go_simp⟩) (by assumption) ?_
    (try simp only [List.setIfInBounds_toArray, List.set_cons_zero, List.set_cons_succ])
    refine wpAnyH_ready (rs := [6, 12]) (by kernel_rfl) (by simp) ?_
    refine (AllReadyH.cons rfl (fun K hK => ?_) (AllReadyH.cons rfl (fun K hK => ?_) AllReadyH.nil))
    · go_simp
      refine (grayWrite_any a b c d N h3 h4 h5 h6 HN.out n cp Z (zs) x y z _ ((HR.out.below bw).more bw.size)).mono ?_
      rintro e X6 ⟨A1, cp1, rfl, r1, lo1, bc⟩
      refine hK.out _ _ ⟨ck bc hHeld.1, ck bc hHeld.2.1, ck bc hHeld.2.2.1, ck bc hHeld.2.2.2⟩ (fun hHeld => ?_)
      clear hK K
      (try simp only [List.setIfInBounds_toArray, List.set_cons_zero, List.set_cons_succ])
      replace k_r := bk bc k_r
      replace k_q := bk bc k_q
      replace bw := bst bc bw
      (try replace r1 := (r1.below bc).more bc.size)
      (try replace r2 := (r2.below bc).more bc.size)
      clear bc
      refine takx (i := 7) (D := 45) (v := .slice A1 N cp1) rfl rfl (by kernel_rfl) (by kernel_rfl) (by kernel_rfl) (fun _ _ _ h => h) (Or.inl ⟨by rfl, fun W hSw => by (try dsimp only at hSw); go_simp⟩) (by assumption) ?_
      (try simp only [List.setIfInBounds_toArray, List.set_cons_zero, List.set_cons_succ])
      refine wpAnyH_ready (rs := [11, 12]) (by kernel_rfl) (by simp) ?_
      refine (AllReadyH.cons rfl (fun K hK => ?_) (AllReadyH.cons rfl (fun K hK => ?_) AllReadyH.nil))
      · go_simp
        refine (grayWrite_any a b c d N h3 h4 h5 h6 HN.out N cp1 A1 (wrAt (byt N zs) a b c d x y (z % 256)) u v t _ r1).mono ?_
        rintro e X7 ⟨A2, cp2, rfl, r2, lo2, bc⟩
        refine hK.out _ _ ⟨ck bc hHeld.1, ck bc hHeld.2.1, ck bc hHeld.2.2.1, ck bc hHeld.2.2.2⟩ (fun hHeld => ?_)
        clear hK K
        (try simp only [List.setIfInBounds_toArray, List.set_cons_zero, List.set_cons_succ])
        replace k_r := bk bc k_r
        replace k_q := bk bc k_q
        replace bw := bst bc bw
        (try replace r1 := (r1.below bc).more bc.size)
        (try replace r2 := (r2.below bc).more bc.size)
        clear bc
        refine wpAnyH_ready (rs := [12]) (by kernel_rfl) (by simp) ?_
        refine (AllReadyH.cons rfl (fun K hK => ?_) AllReadyH.nil)
        go_simp
        refine hK.out _ _ ⟨cka hHeld.1, cka hHeld.2.1, cka hHeld.2.2.1, cka hHeld.2.2.2⟩ (fun hHeld => ?_)
        clear hK K
        (try simp only [List.setIfInBounds_toArray, List.set_cons_zero, List.set_cons_succ])
        obtain ⟨X8, g8, eY, eg⟩ : ∃ Y g, Y = X7.alloc (.cells #[.int .i64 0, .int .i64 0, .int .i64 0, .int .i64 0, .int .i64 0, .slice none 0 0] 29) ∧ g = X7.heap.size := ⟨_, _, rfl, rfl⟩
        rw [← eY, ← eg]
        rw [← eY] at hHeld
        have bc : Below X7.heap.size X7 X8 := by rw [eY]; exact (Below.refl _ _).alloc (Nat.le_refl _) _
        have k_n18 : X8.heap[g8]? = some (.cells #[.int .i64 0, .int .i64 0, .int .i64 0, .int .i64 0, .int .i64 0, .slice none 0 0] 29 (0, 0)) := by rw [eY, eg]; exact heap_alloc_new X7 _
        have lo_n18 : w.heap.size ≤ g8 := by rw [eg]; exact bw.size
        have ne_r_n18 : ¬ w.heap.size = g8 := ne_new k_r eg
        have ne_q_n18 : ¬ g_q = g8 := ne_new k_q eg
        (try have na_r1 := Rd.ne_new r1 eg)
        (try have na_r2 := Rd.ne_new r2 eg)
        replace k_r := bk bc k_r
        replace k_q := bk bc k_q
        replace bw := bst bc bw
        (try replace r1 := (r1.below bc).more bc.size)
        (try replace r2 := (r2.below bc).more bc.size)
        clear bc eY eg
        refine wpAnyH_ready (rs := [13]) (by kernel_rfl) (by simp) ?_
        refine (AllReadyH.cons rfl (fun K hK => ?_) AllReadyH.nil)
        have qq := q6c k_n18
        go_simp
        clear qq
        refine hK.out _ _ ⟨(cks ne_q_n18 (cks ne_q_n18 (cks ne_q_n18 (cks ne_q_n18 (cks ne_q_n18 (cks ne_q_n18 hHeld.1)))))), (cks ne_q_n18 (cks ne_q_n18 (cks ne_q_n18 (cks ne_q_n18 (cks ne_q_n18 (cks ne_q_n18 hHeld.2.1)))))), (cks ne_q_n18 (cks ne_q_n18 (cks ne_q_n18 (cks ne_q_n18 (cks ne_q_n18 (cks ne_q_n18 hHeld.2.2.1)))))), (cks ne_q_n18 (cks ne_q_n18 (cks ne_q_n18 (cks ne_q_n18 (cks ne_q_n18 (cks ne_q_n18 hHeld.2.2.2))))))⟩ (fun hHeld => ?_)
        clear hK K
        (try simp only [List.setIfInBounds_toArray, List.set_cons_zero, List.set_cons_succ])
        obtain ⟨X9, eY⟩ : ∃ Y, Y = ((((((X8.setCell ⟨g8, 0, none⟩ (.int .i64 a)).setCell ⟨g8, 1, none⟩ (.int .i64 b)).setCell ⟨g8, 2, none⟩ (.int .i64 c)).setCell ⟨g8, 3, none⟩ (.int .i64 d)).setCell ⟨g8, 4, none⟩ (.int .i64 (c - a))).setCell ⟨g8, 5, none⟩ (.slice A2 N cp2)) := ⟨_, rfl⟩
        rw [← eY] at hHeld ⊢
        replace k_r : X9.heap[w.heap.size]? = some (.cells #[.int .i64 a, .int .i64 b, .int .i64 c, .int .i64 d] 23 (0, 0)) := by rw [eY]; exact (bks ne_r_n18 (bks ne_r_n18 (bks ne_r_n18 (bks ne_r_n18 (bks ne_r_n18 (bks ne_r_n18 k_r))))))
        replace k_q : X9.heap[g_q]? = some (.cells #[.int .i64 a, .int .i64 b, .int .i64 c, .int .i64 d] 26 (0, 0)) := by rw [eY]; exact (bks ne_q_n18 (bks ne_q_n18 (bks ne_q_n18 (bks ne_q_n18 (bks ne_q_n18 (bks ne_q_n18 k_q))))))
        replace bw : Below w.heap.size w X9 := by rw [eY]; exact (bss lo_n18 (bss lo_n18 (bss lo_n18 (bss lo_n18 (bss lo_n18 (bss lo_n18 bw))))))
        replace k_n18 : X9.heap[g8]? = some (.cells #[.int .i64 a, .int .i64 b, .int .i64 c, .int .i64 d, .int .i64 (c - a), .slice A2 N cp2] 29 (0, 0)) := by rw [eY]; exact q6s k_n18
        (try replace r1 := Rd.sized (W := X9) (Rd.sset na_r1 (Rd.sset na_r1 (Rd.sset na_r1 (Rd.sset na_r1 (Rd.sset na_r1 (Rd.sset na_r1 r1)))))) eY)
        (try replace r2 := Rd.sized (W := X9) (Rd.sset na_r2 (Rd.sset na_r2 (Rd.sset na_r2 (Rd.sset na_r2 (Rd.sset na_r2 (Rd.sset na_r2 r2)))))) eY)
        clear eY
        refine wpAnyH_done (by kernel_rfl) ?_ _
        go_wp2_with fail
        go_meet
        exact ⟨_, A2, cp2, rfl, k_n18, k_r, k_q, r2, bw⟩
      · go_simp
        refine hK.out _ _ ⟨cka hHeld.1, cka hHeld.2.1, cka hHeld.2.2.1, cka hHeld.2.2.2⟩ (fun hHeld => ?_)
        clear hK K
        (try simp only [List.setIfInBounds_toArray, List.set_cons_zero, List.set_cons_succ])
        obtain ⟨X10, g10, eY, eg⟩ : ∃ Y g, Y = X6.alloc (.cells #[.int .i64 0, .int .i64 0, .int .i64 0, .int .i64 0, .int .i64 0, .slice none 0 0] 29) ∧ g = X6.heap.size := ⟨_, _, rfl, rfl⟩
        rw [← eY, ← eg]
        rw [← eY] at hHeld
        have bc : Below X6.heap.size X6 X10 := by rw [eY]; exact (Below.refl _ _).alloc (Nat.le_refl _) _
        have k_n18 : X10.heap[g10]? = some (.cells #[.int .i64 0, .int .i64 0, .int .i64 0, .int .i64 0, .int .i64 0, .slice none 0 0] 29 (0, 0)) := by rw [eY, eg]; exact heap_alloc_new X6 _
        have lo_n18 : w.heap.size ≤ g10 := by rw [eg]; exact bw.size
        have ne_r_n18 : ¬ w.heap.size = g10 := ne_new k_r eg
        have ne_q_n18 : ¬ g_q = g10 := ne_new k_q eg
        (try have na_r1 := Rd.ne_new r1 eg)
        (try have na_r2 := Rd.ne_new r2 eg)
        replace k_r := bk bc k_r
        replace k_q := bk bc k_q
        replace bw := bst bc bw
        (try replace r1 := (r1.below bc).more bc.size)
        (try replace r2 := (r2.below bc).more bc.size)
        clear bc eY eg
        refine wpAnyH_ready (rs := [11]) (by kernel_rfl) (by simp) ?_
        refine (AllReadyH.cons rfl (fun K hK => ?_) AllReadyH.nil)
        go_simp
        refine (grayWrite_any a b c d N h3 h4 h5 h6 HN.out N cp1 A1 (wrAt (byt N zs) a b c d x y (z % 256)) u v t _ r1).mono ?_
        rintro e X11 ⟨A2, cp2, rfl, r2, lo2, bc⟩
        refine hK.out _ _ ⟨ck bc hHeld.1, ck bc hHeld.2.1, ck bc hHeld.2.2.1, ck bc hHeld.2.2.2⟩ (fun hHeld => ?_)
        clear hK K
        (try simp only [List.setIfInBounds_toArray, List.set_cons_zero, List.set_cons_succ])
        have na_r2 := lo_ne (n := N) lo2 k_n18
        replace k_r := bk bc k_r
        replace k_q := bk bc k_q
        replace k_n18 := bk bc k_n18
        replace bw := bst bc bw
        (try replace r1 := (r1.below bc).more bc.size)
        (try replace r2 := (r2.below bc).more bc.size)
        clear bc
        refine wpAnyH_ready (rs := [13]) (by kernel_rfl) (by simp) ?_
        refine (AllReadyH.cons rfl (fun K hK => ?_) AllReadyH.nil)
        have qq := q6c k_n18
        go_simp
        clear qq
        refine hK.out _ _ ⟨(cks ne_q_n18 (cks ne_q_n18 (cks ne_q_n18 (cks ne_q_n18 (cks ne_q_n18 (cks ne_q_n18 hHeld.1)))))), (cks ne_q_n18 (cks ne_q_n18 (cks ne_q_n18 (cks ne_q_n18 (cks ne_q_n18 (cks ne_q_n18 hHeld.2.1)))))), (cks ne_q_n18 (cks ne_q_n18 (cks ne_q_n18 (cks ne_q_n18 (cks ne_q_n18 (cks ne_q_n18 hHeld.2.2.1)))))), (cks ne_q_n18 (cks ne_q_n18 (cks ne_q_n18 (cks ne_q_n18 (cks ne_q_n18 (cks ne_q_n18 hHeld.2.2.2))))))⟩ (fun hHeld => ?_)
        clear hK K
        (try simp only [List.setIfInBounds_toArray, List.set_cons_zero, List.set_cons_succ])
        obtain ⟨X12, eY⟩ : ∃ Y, Y = ((((((X11.setCell ⟨g10, 0, none⟩ (.int .i64 a)).setCell ⟨g10, 1, none⟩ (.int .i64 b)).setCell ⟨g10, 2, none⟩ (.int .i64 c)).setCell ⟨g10, 3, none⟩ (.int .i64 d)).setCell ⟨g10, 4, none⟩ (.int .i64 (c - a))).setCell ⟨g10, 5, none⟩ (.slice A2 N cp2)) := ⟨_, rfl⟩
        rw [← eY] at hHeld ⊢
        replace k_r : X12.heap[w.heap.size]? = some (.cells #[.int .i64 a, .int .i64 b, .int .i64 c, .int .i64 d] 23 (0, 0)) := by rw [eY]; exact (bks ne_r_n18 (bks ne_r_n18 (bks ne_r_n18 (bks ne_r_n18 (bks ne_r_n18 (bks ne_r_n18 k_r))))))
        replace k_q : X12.heap[g_q]? = some (.cells #[.int .i64 a, .int .i64 b, .int .i64 c, .int .i64 d] 26 (0, 0)) := by rw [eY]; exact (bks ne_q_n18 (bks ne_q_n18 (bks ne_q_n18 (bks ne_q_n18 (bks ne_q_n18 (bks ne_q_n18 k_q))))))
        replace bw : Below w.heap.size w X12 := by rw [eY]; exact (bss lo_n18 (bss lo_n18 (bss lo_n18 (bss lo_n18 (bss lo_n18 (bss lo_n18 bw))))))
        replace k_n18 : X12.heap[g10]? = some (.cells #[.int .i64 a, .int .i64 b, .int .i64 c, .int .i64 d, .int .i64 (c - a), .slice A2 N cp2] 29 (0, 0)) := by rw [eY]; exact q6s k_n18
        (try replace r1 := Rd.sized (W := X12) (Rd.sset na_r1 (Rd.sset na_r1 (Rd.sset na_r1 (Rd.sset na_r1 (Rd.sset na_r1 (Rd.sset na_r1 r1)))))) eY)
        (try replace r2 := Rd.sized (W := X12) (Rd.sset na_r2 (Rd.sset na_r2 (Rd.sset na_r2 (Rd.sset na_r2 (Rd.sset na_r2 (Rd.sset na_r2 r2)))))) eY)
        clear eY
        refine wpAnyH_done (by kernel_rfl) ?_ _
        go_wp2_with fail
        go_meet
        exact ⟨_, A2, cp2, rfl, k_n18, k_r, k_q, r2, bw⟩
    · go_simp
      refine hK.out _ _ ⟨cka hHeld.1, cka hHeld.2.1, cka hHeld.2.2.1, cka hHeld.2.2.2⟩ (fun hHeld => ?_)
      clear hK K
      (try simp only [List.setIfInBounds_toArray, List.set_cons_zero, List.set_cons_succ])
      obtain ⟨X13, g13, eY, eg⟩ : ∃ Y g, Y = X5.alloc (.cells #[.int .i64 0, .int .i64 0, .int .i64 0, .int .i64 0, .int .i64 0, .slice none 0 0] 29) ∧ g = X5.heap.size := ⟨_, _, rfl, rfl⟩
      rw [← eY, ← eg]
      rw [← eY] at hHeld
      have bc : Below X5.heap.size X5 X13 := by rw [eY]; exact (Below.refl _ _).alloc (Nat.le_refl _) _
      have k_n18 : X13.heap[g13]? = some (.cells #[.int .i64 0, .int .i64 0, .int .i64 0, .int .i64 0, .int .i64 0, .slice none 0 0] 29 (0, 0)) := by rw [eY, eg]; exact heap_alloc_new X5 _
      have lo_n18 : w.heap.size ≤ g13 := by rw [eg]; exact bw.size
      have ne_r_n18 : ¬ w.heap.size = g13 := ne_new k_r eg
      have ne_q_n18 : ¬ g_q = g13 := ne_new k_q eg
      (try have na_r1 := Rd.ne_new r1 eg)
      (try have na_r2 := Rd.ne_new r2 eg)
      replace k_r := bk bc k_r
      replace k_q := bk bc k_q
      replace bw := bst bc bw
      (try replace r1 := (r1.below bc).more bc.size)
      (try replace r2 := (r2.below bc).more bc.size)
      clear bc eY eg
      refine wpAnyH_ready (rs := [6]) (by kernel_rfl) (by simp) ?_
      refine (AllReadyH.cons rfl (fun K hK => ?_) AllReadyH.nil)
      go_simp
      refine (grayWrite_any a b c d N h3 h4 h5 h6 HN.out n cp Z (zs) x y z _ ((HR.out.below bw).more bw.size)).mono ?_
      rintro e X14 ⟨A1, cp1, rfl, r1, lo1, bc⟩
      refine hK.out _ _ ⟨ck bc hHeld.1, ck bc hHeld.2.1, ck bc hHeld.2.2.1, ck bc hHeld.2.2.2⟩ (fun hHeld => ?_)
      clear hK K
      (try simp only [List.setIfInBounds_toArray, List.set_cons_zero, List.set_cons_succ])
      have na_r1 := lo_ne (n := N) lo1 k_n18
      replace k_r := bk bc k_r
      replace k_q := bk bc k_q
      replace k_n18 := bk bc k_n18
      replace bw := bst bc bw
      (try replace r1 := (r1.below bc).more bc.size)
      (try replace r2 := (r2.below bc).more bc.size)
      clear bc
      refine takx (i := 7) (D := 45) (v := .slice A1 N cp1) rfl rfl (by kernel_rfl) (by kernel_rfl) (by kernel_rfl) (fun _ _ _ h => h) (Or.inl ⟨by rfl, fun W hSw => by (try dsimp only at hSw); go_simp⟩) (by assumption) ?_
      (try simp only [List.setIfInBounds_toArray, List.set_cons_zero, List.set_cons_succ])
      refine wpAnyH_ready (rs := [11]) (by kernel_rfl) (by simp) ?_
      refine (AllReadyH.cons rfl (fun K hK => ?_) AllReadyH.nil)
      go_simp
      refine (grayWrite_any a b c d N h3 h4 h5 h6 HN.out N cp1 A1 (wrAt (byt N zs) a b c d x y (z % 256)) u v t _ r1).mono ?_
      rintro e X15 ⟨A2, cp2, rfl, r2, lo2, bc⟩
      refine hK.out _ _ ⟨ck bc hHeld.1, ck bc hHeld.2.1, ck bc hHeld.2.2.1, ck bc hHeld.2.2.2⟩ (fun hHeld => ?_)
      clear hK K
      (try simp only [List.setIfInBounds_toArray, List.set_cons_zero, List.set_cons_succ])
      have na_r2 := lo_ne (n := N) lo2 k_n18
      replace k_r := bk bc k_r
      replace k_q := bk bc k_q
      replace k_n18 := bk bc k_n18
      replace bw := bst bc bw
      (try replace r1 := (r1.below bc).more bc.size)
      (try replace r2 := (r2.below bc).more bc.size)
      clear bc
      refine wpAnyH_ready (rs := [13]) (by kernel_rfl) (by simp) ?_
      refine (AllReadyH.cons rfl (fun K hK => ?_) AllReadyH.nil)
      have qq := q6c k_n18
      go_simp
      clear qq
      refine hK.out _ _ ⟨(cks ne_q_n18 (cks ne_q_n18 (cks ne_q_n18 (cks ne_q_n18 (cks ne_q_n18 (cks ne_q_n18 hHeld.1)))))), (cks ne_q_n18 (cks ne_q_n18 (cks ne_q_n18 (cks ne_q_n18 (cks ne_q_n18 (cks ne_q_n18 hHeld.2.1)))))), (cks ne_q_n18 (cks ne_q_n18 (cks ne_q_n18 (cks ne_q_n18 (cks ne_q_n18 (cks ne_q_n18 hHeld.2.2.1)))))), (cks ne_q_n18 (cks ne_q_n18 (cks ne_q_n18 (cks ne_q_n18 (cks ne_q_n18 (cks ne_q_n18 hHeld.2.2.2))))))⟩ (fun hHeld => ?_)
      clear hK K
      (try simp only [List.setIfInBounds_toArray, List.set_cons_zero, List.set_cons_succ])
      obtain ⟨X16, eY⟩ : ∃ Y, Y = ((((((X15.setCell ⟨g13, 0, none⟩ (.int .i64 a)).setCell ⟨g13, 1, none⟩ (.int .i64 b)).setCell ⟨g13, 2, none⟩ (.int .i64 c)).setCell ⟨g13, 3, none⟩ (.int .i64 d)).setCell ⟨g13, 4, none⟩ (.int .i64 (c - a))).setCell ⟨g13, 5, none⟩ (.slice A2 N cp2)) := ⟨_, rfl⟩
      rw [← eY] at hHeld ⊢
      replace k_r : X16.heap[w.heap.size]? = some (.cells #[.int .i64 a, .int .i64 b, .int .i64 c, .int .i64 d] 23 (0, 0)) := by rw [eY]; exact (bks ne_r_n18 (bks ne_r_n18 (bks ne_r_n18 (bks ne_r_n18 (bks ne_r_n18 (bks ne_r_n18 k_r))))))
      replace k_q : X16.heap[g_q]? = some (.cells #[.int .i64 a, .int .i64 b, .int .i64 c, .int .i64 d] 26 (0, 0)) := by rw [eY]; exact (bks ne_q_n18 (bks ne_q_n18 (bks ne_q_n18 (bks ne_q_n18 (bks ne_q_n18 (bks ne_q_n18 k_q))))))
      replace bw : Below w.heap.size w X16 := by rw [eY]; exact (bss lo_n18 (bss lo_n18 (bss lo_n18 (bss lo_n18 (bss lo_n18 (bss lo_n18 bw))))))
      replace k_n18 : X16.heap[g13]? = some (.cells #[.int .i64 a, .int .i64 b, .int .i64 c, .int .i64 d, .int .i64 (c - a), .slice A2 N cp2] 29 (0, 0)) := by rw [eY]; exact q6s k_n18
      (try replace r1 := Rd.sized (W := X16) (Rd.sset na_r1 (Rd.sset na_r1 (Rd.sset na_r1 (Rd.sset na_r1 (Rd.sset na_r1 (Rd.sset na_r1 r1)))))) eY)
      (try replace r2 := Rd.sized (W := X16) (Rd.sset na_r2 (Rd.sset na_r2 (Rd.sset na_r2 (Rd.sset na_r2 (Rd.sset na_r2 (Rd.sset na_r2 r2)))))) eY)
      clear eY
      refine wpAnyH_done (by kernel_rfl) ?_ _
      go_wp2_with fail
      go_meet
      exact ⟨_, A2, cp2, rfl, k_n18, k_r, k_q, r2, bw⟩
  case rest =>
    clear k_r k_q bw
    obtain ⟨g_p, A2, cp2, rfl, k_p, k_r, k_q, R2, BW⟩ := hcut
    have bw := BW.out
    clear BW
    have r2 := R2.out
    clear R2
    have q_r := q4c k_r
    have q_q := q4c k_q
    have q_p := q6c k_p
    go_upto_region 9 with fail
    clear q_r q_q q_p
    refine wp_region_held_drew (S := fun w' => w'.cell? ⟨g_q, 0, none⟩ = some (.int .i64 a) ∧ w'.cell? ⟨g_q, 1, none⟩ = some (.int .i64 b) ∧ w'.cell? ⟨g_q, 2, none⟩ = some (.int .i64 c) ∧ w'.cell? ⟨g_q, 3, none⟩ = some (.int .i64 d) ∧ w'.cell? ⟨g_p, 0, none⟩ = some (.int .i64 a) ∧ w'.cell? ⟨g_p, 1, none⟩ = some (.int .i64 b) ∧ w'.cell? ⟨g_p, 2, none⟩ = some (.int .i64 c) ∧ w'.cell? ⟨g_p, 3, none⟩ = some (.int .i64 d) ∧ w'.cell? ⟨g_p, 4, none⟩ = some (.int .i64 (c - a)) ∧ w'.cell? ⟨g_p, 5, none⟩ = some (.slice A2 N cp2)) (by kernel_rfl) ⟨(q4c k_q).1.1, (q4c k_q).1.2.1, (q4c k_q).1.2.2.1, (q4c k_q).1.2.2.2, (q6c k_p).1.1, (q6c k_p).1.2.1, (q6c k_p).1.2.2.1, (q6c k_p).1.2.2.2.1, (q6c k_p).1.2.2.2.2.1, (q6c k_p).1.2.2.2.2.2⟩ ?_
    intro hHeld
    obtain ⟨X18, eX, bc⟩ : ∃ X, X = wc.drew ∧ Below wc.heap.size wc X := ⟨_, rfl, (Below.refl _ _).drew⟩
    rw [← eX] at hHeld ⊢
    replace k_r := bk bc k_r
    replace k_q := bk bc k_q
    replace k_p := bk bc k_p
    replace bw := bst bc bw
    (try replace r2 := (r2.below bc).more bc.size)
    (try replace r3 := (r3.below bc).more bc.size)
    (try replace r4 := (r4.below bc).more bc.size)
    clear eX bc
    refine takx (i := 0) (D := 70) (v := .agg #[.int .i64 a, .int .i64 b, .int .i64 c, .int .i64 d, .int .i64 (c - a), .slice A2 N cp2]) rfl rfl (by kernel_rfl) (by kernel_rfl) (by kernel_rfl) (fun _ _ _ h => h) (Or.inl ⟨by rfl, fun W hSw => by (try dsimp only at hSw); go_simp⟩) (by assumption) ?_
    (try simp only [List.setIfInBounds_toArray, List.set_cons_zero, List.set_cons_succ])
    refine takx (i := 1) (D := 71) (v := .agg #[.int .i64 a, .int .i64 b, .int .i64 c, .int .i64 d]) rfl rfl (by kernel_rfl) (by kernel_rfl) (by kernel_rfl) (fun _ _ _ h => h) (Or.inl ⟨by rfl, fun W hSw => by (try dsimp only at hSw); go_simp⟩) (by assumption) ?_
    (try simp only [List.setIfInBounds_toArray, List.set_cons_zero, List.set_cons_succ])
    refine takx (i := 2) (D := 72) (v := .agg #[.int .i64 a, .int .i64 b, .int .i64 c, .int .i64 d]) rfl rfl (by kernel_rfl) (by kernel_rfl) (by kernel_rfl) (fun _ _ _ h => h) (Or.inl ⟨by rfl, fun W hSw => by (try dsimp only at hSw); go_simp⟩) (by assumption) ?_
    (try simp only [List.setIfInBounds_toArray, List.set_cons_zero, List.set_cons_succ])
    refine takx (i := 3) (D := 73) (v := .slice Z n cp) rfl rfl (by kernel_rfl) (by kernel_rfl) (by kernel_rfl) (fun _ _ _ h => h) (Or.inl ⟨by rfl, fun W hSw => by (try dsimp only at hSw); go_simp⟩) (by assumption) ?_
    (try simp only [List.setIfInBounds_toArray, List.set_cons_zero, List.set_cons_succ])
    refine takx (i := 4) (D := 74) (v := .int .i64 u) rfl rfl (by kernel_rfl) (by kernel_rfl) (by kernel_rfl) (fun _ _ _ h => h) (Or.inl ⟨by rfl, fun W hSw => by (try dsimp only at hSw); go_simp⟩) (by assumption) ?_
    (try simp only [List.setIfInBounds_toArray, List.set_cons_zero, List.set_cons_succ])
    refine takx (i := 5) (D := 75) (v := .int .i64 v) rfl rfl (by kernel_rfl) (by kernel_rfl) (by kernel_rfl) (fun _ _ _ h => h) (Or.inl ⟨by rfl, fun W hSw => by (try dsimp only at hSw); go_simp⟩) (by assumption) ?_
    (try simp only [List.setIfInBounds_toArray, List.set_cons_zero, List.set_cons_succ])
    refine takx (i := 6) (D := 76) (v := .int .i64 t) rfl rfl (by kernel_rfl) (by kernel_rfl) (by kernel_rfl) (fun _ _ _ h => h) (Or.inl ⟨by rfl, fun W hSw => by (try dsimp only at hSw); go_simp⟩) (by assumption) ?_
    (try simp only [List.setIfInBounds_toArray, List.set_cons_zero, List.set_cons_succ])
    refine takx (i := 9) (D := 79) (v := .int .i64 x) rfl rfl (by kernel_rfl) (by kernel_rfl) (by kernel_rfl) (fun _ _ _ h => h) (Or.inl ⟨by rfl, fun W hSw => by (try dsimp only at hSw); go_simp⟩) (by assumption) ?_
    (try simp only [List.setIfInBounds_toArray, List.set_cons_zero, List.set_cons_succ])
    refine takx (i := 10) (D := 80) (v := .int .i64 y) rfl rfl (by kernel_rfl) (by kernel_rfl) (by kernel_rfl) (fun _ _ _ h => h) (Or.inl ⟨by rfl, fun W hSw => by (try dsimp only at hSw); go_simp⟩) (by assumption) ?_
    (try simp only [List.setIfInBounds_toArray, List.set_cons_zero, List.set_cons_succ])
    refine takx (i := 11) (D := 81) (v := .int .i64 z) rfl rfl (by kernel_rfl) (by kernel_rfl) (by kernel_rfl) (fun _ _ _ h => h) (Or.inl ⟨by rfl, fun W hSw => by (try dsimp only at hSw); go_simp⟩) (by assumption) ?_
    (try simp only [List.setIfInBounds_toArray, List.set_cons_zero, List.set_cons_succ])
    refine wpAnyH_ready (rs := [7]) (by kernel_rfl) (by simp) ?_
    refine (AllReadyH.cons rfl (fun K hK => ?_) AllReadyH.nil)
    go_simp
    refine (grayWrite_any a b c d N h3 h4 h5 h6 HN.out n cp Z (zs) u v t _ ((HR.out.below bw).more bw.size)).mono ?_
    rintro e X19 ⟨A3, cp3, rfl, r3, lo3, bc⟩
    refine hK.out _ _ ⟨ck bc hHeld.1, ck bc hHeld.2.1, ck bc hHeld.2.2.1, ck bc hHeld.2.2.2.1, ck bc hHeld.2.2.2.2.1, ck bc hHeld.2.2.2.2.2.1, ck bc hHeld.2.2.2.2.2.2.1, ck bc hHeld.2.2.2.2.2.2.2.1, ck bc hHeld.2.2.2.2.2.2.2.2.1, ck bc hHeld.2.2.2.2.2.2.2.2.2⟩ (fun hHeld => ?_)
    clear hK K
    (try simp only [List.setIfInBounds_toArray, List.set_cons_zero, List.set_cons_succ])
    replace k_r := bk bc k_r
    replace k_q := bk bc k_q
    replace k_p := bk bc k_p
    replace bw := bst bc bw
    (try replace r2 := (r2.below bc).more bc.size)
    (try replace r3 := (r3.below bc).more bc.size)
    (try replace r4 := (r4.below bc).more bc.size)
    clear bc
    refine takx (i := 8) (D := 78) (v := .slice A3 N cp3) rfl rfl (by kernel_rfl) (by kernel_rfl) (by kernel_rfl) (fun _ _ _ h => h) (Or.inl ⟨by rfl, fun W hSw => by (try dsimp only at hSw); go_simp⟩) (by assumption) ?_
    (try simp only [List.setIfInBounds_toArray, List.set_cons_zero, List.set_cons_succ])
    refine wpAnyH_ready (rs := [12]) (by kernel_rfl) (by simp) ?_
    refine (AllReadyH.cons rfl (fun K hK => ?_) AllReadyH.nil)
    go_simp
    refine (grayWrite_any a b c d N h3 h4 h5 h6 HN.out N cp3 A3 (wrAt (byt N zs) a b c d u v (t % 256)) x y z _ r3).mono ?_
    rintro e X20 ⟨A4, cp4, rfl, r4, lo4, bc⟩
    refine hK.out _ _ ⟨ck bc hHeld.1, ck bc hHeld.2.1, ck bc hHeld.2.2.1, ck bc hHeld.2.2.2.1, ck bc hHeld.2.2.2.2.1, ck bc hHeld.2.2.2.2.2.1, ck bc hHeld.2.2.2.2.2.2.1, ck bc hHeld.2.2.2.2.2.2.2.1, ck bc hHeld.2.2.2.2.2.2.2.2.1, ck bc hHeld.2.2.2.2.2.2.2.2.2⟩ (fun hHeld => ?_)
    clear hK K
    (try simp only [List.setIfInBounds_toArray, List.set_cons_zero, List.set_cons_succ])
    replace k_r := bk bc k_r
    replace k_q := bk bc k_q
    replace k_p := bk bc k_p
    replace bw := bst bc bw
    (try replace r2 := (r2.below bc).more bc.size)
    (try replace r3 := (r3.below bc).more bc.size)
    (try replace r4 := (r4.below bc).more bc.size)
    clear bc
    refine wpAnyH_ready (rs := [13]) (by kernel_rfl) (by simp) ?_
    refine (AllReadyH.cons rfl (fun K hK => ?_) AllReadyH.nil)
    go_simp
    refine (samePic_true _ _ _ _ _ _ _ _ _ _ (wrAt (wrAt (byt N zs) a b c d u v (t % 256)) a b c d x y (z % 256)) _ (by have := r2; rw [(byt_self (by rw [wrAt_length, byt_length]) (wrAt_ok (byt_ok _ _) (by omega) (by omega))), wr_wr_other HN.out HI.out HJ.out HXY.out] at this; exact this) (by have := r4; rw [(byt_self (by rw [wrAt_length, byt_length]) (wrAt_ok (byt_ok _ _) (by omega) (by omega)))] at this; exact this)).mono ?_
    rintro e X21 ⟨rfl, bc⟩
    refine hK.out _ _ ⟨ck bc hHeld.1, ck bc hHeld.2.1, ck bc hHeld.2.2.1, ck bc hHeld.2.2.2.1, ck bc hHeld.2.2.2.2.1, ck bc hHeld.2.2.2.2.2.1, ck bc hHeld.2.2.2.2.2.2.1, ck bc hHeld.2.2.2.2.2.2.2.1, ck bc hHeld.2.2.2.2.2.2.2.2.1, ck bc hHeld.2.2.2.2.2.2.2.2.2⟩ (fun hHeld => ?_)
    clear hK K
    (try simp only [List.setIfInBounds_toArray, List.set_cons_zero, List.set_cons_succ])
    replace k_r := bk bc k_r
    replace k_q := bk bc k_q
    replace k_p := bk bc k_p
    replace bw := bst bc bw
    (try replace r2 := (r2.below bc).more bc.size)
    (try replace r3 := (r3.below bc).more bc.size)
    (try replace r4 := (r4.below bc).more bc.size)
    clear bc
    refine takx (i := 14) (D := 16) (v := .bool true) rfl rfl (by kernel_rfl) (by kernel_rfl) (by kernel_rfl) (fun _ _ _ h => h) (Or.inl ⟨by rfl, fun W hSw => by (try dsimp only at hSw); go_simp⟩) (by assumption) ?_
    (try simp only [List.setIfInBounds_toArray, List.set_cons_zero, List.set_cons_succ])
    refine wpAnyH_done (by kernel_rfl) ?_ _
    clear hHeld
    go_wp2
    go_ret
    exact ⟨rfl, bw⟩

end Go.Proofs.Ytpijljokcoocpaa

/-
  The walk of the law FnNRGBAWriteRead. No condition.
-/
import Derived.Test.YtkhofahobcegiaaNH1
import Derived.Test.YtkhofahobcegiaaNPL
import Derived.Test.YtkhofahobcegiaaX1
namespace Go.Proofs.Ytkhofahobcegiaa
open Go.ChangeShapes Go.WideShapes Go.ChangeAt Go.RowKit
set_option linter.unusedVariables false
set_option linter.unusedSimpArgs false

theorem lowColor4 (p : Q4) (hp : p.ok) (w : World) :
    Calls Try.prog 35 #[.agg #[.int .i64 p.a, .int .i64 p.b, .int .i64 p.c, .int .i64 p.d]] w fun e w' => e = .returned (.agg #[.int .i64 (low4 p).a, .int .i64 (low4 p).b, .int .i64 (low4 p).c, .int .i64 (low4 p).d]) ∧ Below w.heap.size w w' := lowColor_any p hp w

set_option maxRecDepth 100000 in
set_option maxHeartbeats 4000000 in
theorem fnNRGBAWriteRead_walk (w : World) (q : Q4) (hq : q.ok) (Z : Option Addr) (n cp : Nat) (zs : List Int) (hr : Rd w w.heap.size Z n zs) (x : Int) (hx : I64 x) (y : Int) (hy : I64 y) (z : Q4) (hz : z.ok) (u : Int) (hu : I64 u) (v : Int) (hv : I64 v) :
    Calls Try.prog 17 #[q.val, .slice Z n cp, .int .i64 x, .int .i64 y, z.val, .int .i64 u, .int .i64 v] w fun e w' => e = .returned (.bool true) ∧ Below w.heap.size w w' := by
  obtain ⟨a, b, c, d⟩ := q
  obtain ⟨ha, hb, hc, hd⟩ := hq
  show Calls Try.prog 17 #[.agg #[.int .i64 a, .int .i64 b, .int .i64 c, .int .i64 d], .slice Z n cp, .int .i64 x, .int .i64 y, .agg #[.int .i64 z.a, .int .i64 z.b, .int .i64 z.c, .int .i64 z.d], .int .i64 u, .int .i64 v] w _
  have hrs := rect_same a b c d
  have hrd := rect_diff a b c d
  have hp0 := fun st v => pfld0 a b c d st v
  have hp2 := fun st A n cp => pfld2 a b c d st A n cp
  have HR := Lib.hid hr
  clear hr
  have Hz := Lib.hid hz
  clear hz
  have hcs := fun a b c d W => col_same a b c d W
  have hcd := fun a b c d W => col_diff a b c d W
  by_cases hf : Fine a b c d
  case neg =>
    have HF := Lib.hid hf
    clear hf
    go_enter Try.func17, Try.ntmps17
    go_wp2_with fail
    refine (toRect4 a b c d _).mono ?_
    rintro e w1 ⟨rfl, bc⟩
    have bw := bst bc (bsa (bsa (Below.refl _ _)))
    have k_r : w1.heap[w.heap.size]? = some (.cells #[.int .i64 a, .int .i64 b, .int .i64 c, .int .i64 d] 23 (0, 0)) := by have := bk bc (bka (heap_alloc_new w _)); simpa using this
    have k_c : w1.heap[w.heap.size + 1]? = some (.cells #[.int .i64 z.a, .int .i64 z.b, .int .i64 z.c, .int .i64 z.d] 44 (0, 0)) := by have := bk bc (heap_alloc_new (w.alloc (.cells #[.int .i64 a, .int .i64 b, .int .i64 c, .int .i64 d] 23)) _); simpa using this
    clear bc
    go_upto_region 2 with fail
    obtain ⟨Y1, g_q, eY, eg⟩ : ∃ Y g, Y = w1.alloc (.cells #[.int .i64 a, .int .i64 b, .int .i64 c, .int .i64 d] 25) ∧ g = w1.heap.size := ⟨_, _, rfl, rfl⟩
    rw [← eY, ← eg]
    have bc : Below w1.heap.size w1 Y1 := by rw [eY]; exact (Below.refl _ _).alloc (Nat.le_refl _) _
    have k_q : Y1.heap[g_q]? = some (.cells #[.int .i64 a, .int .i64 b, .int .i64 c, .int .i64 d] 25 (0, 0)) := by rw [eY, eg]; exact heap_alloc_new w1 _
    replace k_r := bk bc k_r
    replace k_c := bk bc k_c
    replace bw := bst bc bw
    clear bc eY eg
    have q_r := q4c k_r
    have q_c := q4c k_c
    have q_q := q4c k_q
    go_wp2_with fail
    refine (fine_no a b c d ha hb hc hd HF.out _).mono ?_
    rintro e Y2 ⟨rfl, bc⟩
    clear q_r q_c q_q
    replace k_r := bk bc k_r
    replace k_c := bk bc k_c
    replace k_q := bk bc k_q
    replace bw := bst bc bw
    clear bc
    go_wp2
    go_ret
    exact ⟨rfl, bw⟩
  obtain ⟨h3, h4, h5, h6, M, hM⟩ := fine_area hf
  obtain ⟨N, hN⟩ : ∃ N : Nat, 4 * (c - a) * (d - b) = N := ⟨4 * M, by rw [Int.mul_assoc, hM]; omega⟩
  have HF := Lib.hid hf
  have HN := Lib.hid hN
  have HM := Lib.hid hM
  clear hf hN hM
  by_cases hin : In a b c d x y
  case neg =>
    have HI := Lib.hid hin
    clear hin
    go_enter Try.func17, Try.ntmps17
    go_wp2_with fail
    refine (toRect4 a b c d _).mono ?_
    rintro e w1 ⟨rfl, bc⟩
    have bw := bst bc (bsa (bsa (Below.refl _ _)))
    have k_r : w1.heap[w.heap.size]? = some (.cells #[.int .i64 a, .int .i64 b, .int .i64 c, .int .i64 d] 23 (0, 0)) := by have := bk bc (bka (heap_alloc_new w _)); simpa using this
    have k_c : w1.heap[w.heap.size + 1]? = some (.cells #[.int .i64 z.a, .int .i64 z.b, .int .i64 z.c, .int .i64 z.d] 44 (0, 0)) := by have := bk bc (heap_alloc_new (w.alloc (.cells #[.int .i64 a, .int .i64 b, .int .i64 c, .int .i64 d] 23)) _); simpa using this
    clear bc
    go_upto_region 2 with fail
    obtain ⟨Y1, g_q, eY, eg⟩ : ∃ Y g, Y = w1.alloc (.cells #[.int .i64 a, .int .i64 b, .int .i64 c, .int .i64 d] 25) ∧ g = w1.heap.size := ⟨_, _, rfl, rfl⟩
    rw [← eY, ← eg]
    have bc : Below w1.heap.size w1 Y1 := by rw [eY]; exact (Below.refl _ _).alloc (Nat.le_refl _) _
    have k_q : Y1.heap[g_q]? = some (.cells #[.int .i64 a, .int .i64 b, .int .i64 c, .int .i64 d] 25 (0, 0)) := by rw [eY, eg]; exact heap_alloc_new w1 _
    replace k_r := bk bc k_r
    replace k_c := bk bc k_c
    replace bw := bst bc bw
    clear bc eY eg
    have q_r := q4c k_r
    have q_c := q4c k_c
    have q_q := q4c k_q
    go_wp2_with fail
    refine (fine_yes a b c d HF.out _).mono ?_
    rintro e Y2 ⟨rfl, bc⟩
    clear q_r q_c q_q
    replace k_r := bk bc k_r
    replace k_c := bk bc k_c
    replace k_q := bk bc k_q
    replace bw := bst bc bw
    clear bc
    have q_r := q4c k_r
    have q_c := q4c k_c
    have q_q := q4c k_q
    go_wp2_with fail
    refine (has_no a b c d x y HI.out _).mono ?_
    rintro e Y3 ⟨rfl, bc⟩
    clear q_r q_c q_q
    replace k_r := bk bc k_r
    replace k_c := bk bc k_c
    replace k_q := bk bc k_q
    replace bw := bst bc bw
    clear bc
    go_wp2
    go_ret
    exact ⟨rfl, bw⟩
  have HI := Lib.hid hin
  clear hin
  by_cases hin : In a b c d u v
  case neg =>
    have HJ := Lib.hid hin
    clear hin
    go_enter Try.func17, Try.ntmps17
    go_wp2_with fail
    refine (toRect4 a b c d _).mono ?_
    rintro e w1 ⟨rfl, bc⟩
    have bw := bst bc (bsa (bsa (Below.refl _ _)))
    have k_r : w1.heap[w.heap.size]? = some (.cells #[.int .i64 a, .int .i64 b, .int .i64 c, .int .i64 d] 23 (0, 0)) := by have := bk bc (bka (heap_alloc_new w _)); simpa using this
    have k_c : w1.heap[w.heap.size + 1]? = some (.cells #[.int .i64 z.a, .int .i64 z.b, .int .i64 z.c, .int .i64 z.d] 44 (0, 0)) := by have := bk bc (heap_alloc_new (w.alloc (.cells #[.int .i64 a, .int .i64 b, .int .i64 c, .int .i64 d] 23)) _); simpa using this
    clear bc
    go_upto_region 2 with fail
    obtain ⟨Y1, g_q, eY, eg⟩ : ∃ Y g, Y = w1.alloc (.cells #[.int .i64 a, .int .i64 b, .int .i64 c, .int .i64 d] 25) ∧ g = w1.heap.size := ⟨_, _, rfl, rfl⟩
    rw [← eY, ← eg]
    have bc : Below w1.heap.size w1 Y1 := by rw [eY]; exact (Below.refl _ _).alloc (Nat.le_refl _) _
    have k_q : Y1.heap[g_q]? = some (.cells #[.int .i64 a, .int .i64 b, .int .i64 c, .int .i64 d] 25 (0, 0)) := by rw [eY, eg]; exact heap_alloc_new w1 _
    replace k_r := bk bc k_r
    replace k_c := bk bc k_c
    replace bw := bst bc bw
    clear bc eY eg
    have q_r := q4c k_r
    have q_c := q4c k_c
    have q_q := q4c k_q
    go_wp2_with fail
    refine (fine_yes a b c d HF.out _).mono ?_
    rintro e Y2 ⟨rfl, bc⟩
    clear q_r q_c q_q
    replace k_r := bk bc k_r
    replace k_c := bk bc k_c
    replace k_q := bk bc k_q
    replace bw := bst bc bw
    clear bc
    have q_r := q4c k_r
    have q_c := q4c k_c
    have q_q := q4c k_q
    go_wp2_with fail
    refine (has_yes a b c d x y HI.out _).mono ?_
    rintro e Y3 ⟨rfl, bc⟩
    clear q_r q_c q_q
    replace k_r := bk bc k_r
    replace k_c := bk bc k_c
    replace k_q := bk bc k_q
    replace bw := bst bc bw
    clear bc
    have q_r := q4c k_r
    have q_c := q4c k_c
    have q_q := q4c k_q
    go_wp2_with fail
    refine (has_no a b c d u v HJ.out _).mono ?_
    rintro e Y4 ⟨rfl, bc⟩
    clear q_r q_c q_q
    replace k_r := bk bc k_r
    replace k_c := bk bc k_c
    replace k_q := bk bc k_q
    replace bw := bst bc bw
    clear bc
    go_wp2
    go_ret
    exact ⟨rfl, bw⟩
  have HJ := Lib.hid hin
  clear hin
  by_cases hxy : x = u ∧ y = v
  case pos =>
    obtain ⟨rfl, rfl⟩ := hxy
    have t1 : (x == x) = true := by simp
    have t2 : (y == y) = true := by simp
    go_enter Try.func17, Try.ntmps17
    go_wp2_with fail
    refine (toRect4 a b c d _).mono ?_
    rintro e w1 ⟨rfl, bc⟩
    have bw := bst bc (bsa (bsa (Below.refl _ _)))
    have k_r : w1.heap[w.heap.size]? = some (.cells #[.int .i64 a, .int .i64 b, .int .i64 c, .int .i64 d] 23 (0, 0)) := by have := bk bc (bka (heap_alloc_new w _)); simpa using this
    have k_c : w1.heap[w.heap.size + 1]? = some (.cells #[.int .i64 z.a, .int .i64 z.b, .int .i64 z.c, .int .i64 z.d] 44 (0, 0)) := by have := bk bc (heap_alloc_new (w.alloc (.cells #[.int .i64 a, .int .i64 b, .int .i64 c, .int .i64 d] 23)) _); simpa using this
    clear bc
    go_upto_region 2 with fail
    obtain ⟨Y1, g_q, eY, eg⟩ : ∃ Y g, Y = w1.alloc (.cells #[.int .i64 a, .int .i64 b, .int .i64 c, .int .i64 d] 25) ∧ g = w1.heap.size := ⟨_, _, rfl, rfl⟩
    rw [← eY, ← eg]
    have bc : Below w1.heap.size w1 Y1 := by rw [eY]; exact (Below.refl _ _).alloc (Nat.le_refl _) _
    have k_q : Y1.heap[g_q]? = some (.cells #[.int .i64 a, .int .i64 b, .int .i64 c, .int .i64 d] 25 (0, 0)) := by rw [eY, eg]; exact heap_alloc_new w1 _
    replace k_r := bk bc k_r
    replace k_c := bk bc k_c
    replace bw := bst bc bw
    clear bc eY eg
    have q_r := q4c k_r
    have q_c := q4c k_c
    have q_q := q4c k_q
    go_wp2_with fail
    refine (fine_yes a b c d HF.out _).mono ?_
    rintro e Y2 ⟨rfl, bc⟩
    clear q_r q_c q_q
    replace k_r := bk bc k_r
    replace k_c := bk bc k_c
    replace k_q := bk bc k_q
    replace bw := bst bc bw
    clear bc
    have q_r := q4c k_r
    have q_c := q4c k_c
    have q_q := q4c k_q
    go_wp2_with fail
    refine (has_yes a b c d x y HI.out _).mono ?_
    rintro e Y3 ⟨rfl, bc⟩
    clear q_r q_c q_q
    replace k_r := bk bc k_r
    replace k_c := bk bc k_c
    replace k_q := bk bc k_q
    replace bw := bst bc bw
    clear bc
    have q_r := q4c k_r
    have q_c := q4c k_c
    have q_q := q4c k_q
    go_wp2_with fail
    refine (has_yes a b c d x y HJ.out _).mono ?_
    rintro e Y4 ⟨rfl, bc⟩
    clear q_r q_c q_q
    replace k_r := bk bc k_r
    replace k_c := bk bc k_c
    replace k_q := bk bc k_q
    replace bw := bst bc bw
    clear bc
    go_upto_region 4 with fail
    go_cut [16] (fun s16 wx => ∃ (g_p : Nat) (A1 : Option Addr) (cp1 : Nat), s16 = .pointer (some ⟨g_p, 0, none⟩) ∧ wx.heap[g_p]? = some (.cells #[.int .i64 a, .int .i64 b, .int .i64 c, .int .i64 d, .int .i64 (4 * (c - a)), .slice A1 N cp1] 37 (0, 0)) ∧ wx.heap[w.heap.size]? = some (.cells #[.int .i64 a, .int .i64 b, .int .i64 c, .int .i64 d] 23 (0, 0)) ∧ wx.heap[w.heap.size + 1]? = some (.cells #[.int .i64 z.a, .int .i64 z.b, .int .i64 z.c, .int .i64 z.d] 44 (0, 0)) ∧ wx.heap[g_q]? = some (.cells #[.int .i64 a, .int .i64 b, .int .i64 c, .int .i64 d] 25 (0, 0)) ∧ Hid (Rd wx wx.heap.size A1 N (wrAt (byt N zs) a b c d x y z)) ∧ Hid (Below w.heap.size w wx))
    case first =>
      refine wp_region_held_drew (S := fun w' => w'.cell? ⟨g_q, 0, none⟩ = some (.int .i64 a) ∧ w'.cell? ⟨g_q, 1, none⟩ = some (.int .i64 b) ∧ w'.cell? ⟨g_q, 2, none⟩ = some (.int .i64 c) ∧ w'.cell? ⟨g_q, 3, none⟩ = some (.int .i64 d) ∧ w'.cell? ⟨w.heap.size + 1, 0, none⟩ = some (.int .i64 z.a) ∧ w'.cell? ⟨w.heap.size + 1, 1, none⟩ = some (.int .i64 z.b) ∧ w'.cell? ⟨w.heap.size + 1, 2, none⟩ = some (.int .i64 z.c) ∧ w'.cell? ⟨w.heap.size + 1, 3, none⟩ = some (.int .i64 z.d)) (by kernel_rfl) ⟨(q4c k_q).1.1, (q4c k_q).1.2.1, (q4c k_q).1.2.2.1, (q4c k_q).1.2.2.2, (q4c k_c).1.1, (q4c k_c).1.2.1, (q4c k_c).1.2.2.1, (q4c k_c).1.2.2.2⟩ ?_
      intro hHeld
      obtain ⟨X5, eX, bc⟩ : ∃ X, X = Y4.drew ∧ Below Y4.heap.size Y4 X := ⟨_, rfl, (Below.refl _ _).drew⟩
      rw [← eX] at hHeld ⊢
      replace k_r := bk bc k_r
      replace k_c := bk bc k_c
      replace k_q := bk bc k_q
      replace bw := bst bc bw
      (try replace r1 := (r1.below bc).more bc.size)
      clear eX bc
      refine takx (i := 0) (D := 36) (v := .agg #[.int .i64 a, .int .i64 b, .int .i64 c, .int .i64 d]) rfl rfl (by kernel_rfl) (by kernel_rfl) (by kernel_rfl) (fun _ _ _ h => h) (Or.inl ⟨by rfl, fun W hSw => by (try dsimp only at hSw); go_simp⟩) (by assumption) ?_
      (try simp only [List.setIfInBounds_toArray, List.set_cons_zero, List.set_cons_succ])
      refine takx (i := 1) (D := 37) (v := .slice Z n cp) rfl rfl (by kernel_rfl) (by kernel_rfl) (by kernel_rfl) (fun _ _ _ h => h) (Or.inl ⟨by rfl, fun W hSw => by (try dsimp only at hSw); go_simp⟩) (by assumption) ?_
      (try simp only [List.setIfInBounds_toArray, List.set_cons_zero, List.set_cons_succ])
      refine takx (i := 2) (D := 38) (v := .int .i64 x) rfl rfl (by kernel_rfl) (by kernel_rfl) (by kernel_rfl) (fun _ _ _ h => h) (Or.inl ⟨by rfl, fun W hSw => by (try dsimp only at hSw); go_simp⟩) (by assumption) ?_
      (try simp only [List.setIfInBounds_toArray, List.set_cons_zero, List.set_cons_succ])
      refine takx (i := 3) (D := 39) (v := .int .i64 y) rfl rfl (by kernel_rfl) (by kernel_rfl) (by kernel_rfl) (fun _ _ _ h => h) (Or.inl ⟨by rfl, fun W hSw => by (try dsimp only at hSw); go_simp⟩) (by assumption) ?_
      (try simp only [List.setIfInBounds_toArray, List.set_cons_zero, List.set_cons_succ])
      refine takx (i := 4) (D := 40) (v := .agg #[.int .i64 z.a, .int .i64 z.b, .int .i64 z.c, .int .i64 z.d]) rfl rfl (by kernel_rfl) (by kernel_rfl) (by kernel_rfl) (fun _ _ _ h => h) (Or.inl ⟨by rfl, fun W hSw => by (try dsimp only at hSw); go_simp⟩) (by assumption) ?_
      (try simp only [List.setIfInBounds_toArray, List.set_cons_zero, List.set_cons_succ])
      refine wpAnyH_ready (rs := [5, 7]) (by kernel_rfl) (by simp) ?_
      refine (AllReadyH.cons rfl (fun K hK => ?_) (AllReadyH.cons rfl (fun K hK => ?_) AllReadyH.nil))
      · go_simp
        refine (toColor4 z.a z.b z.c z.d _).mono ?_
        rintro e X6 ⟨rfl, bc⟩
        refine hK.out _ _ ⟨ck bc hHeld.1, ck bc hHeld.2.1, ck bc hHeld.2.2.1, ck bc hHeld.2.2.2.1, ck bc hHeld.2.2.2.2.1, ck bc hHeld.2.2.2.2.2.1, ck bc hHeld.2.2.2.2.2.2.1, ck bc hHeld.2.2.2.2.2.2.2⟩ (fun hHeld => ?_)
        clear hK K
        (try simp only [List.setIfInBounds_toArray, List.set_cons_zero, List.set_cons_succ])
        replace k_r := bk bc k_r
        replace k_c := bk bc k_c
        replace k_q := bk bc k_q
        replace bw := bst bc bw
        (try replace r1 := (r1.below bc).more bc.size)
        clear bc
        refine wpAnyH_ready (rs := [6, 7]) (by kernel_rfl) (by simp) ?_
        refine (AllReadyH.cons rfl (fun K hK => ?_) (AllReadyH.cons rfl (fun K hK => ?_) AllReadyH.nil))
        · go_simp
          refine (nrgbaWrite_any a b c d N h3 h4 h5 h6 HN.out n cp Z (zs) x y z _ ((HR.out.below bw).more bw.size)).mono ?_
          rintro e X7 ⟨A1, cp1, rfl, r1, lo1, bc⟩
          refine hK.out _ _ ⟨ck bc hHeld.1, ck bc hHeld.2.1, ck bc hHeld.2.2.1, ck bc hHeld.2.2.2.1, ck bc hHeld.2.2.2.2.1, ck bc hHeld.2.2.2.2.2.1, ck bc hHeld.2.2.2.2.2.2.1, ck bc hHeld.2.2.2.2.2.2.2⟩ (fun hHeld => ?_)
          clear hK K
          (try simp only [List.setIfInBounds_toArray, List.set_cons_zero, List.set_cons_succ])
          replace k_r := bk bc k_r
          replace k_c := bk bc k_c
          replace k_q := bk bc k_q
          replace bw := bst bc bw
          (try replace r1 := (r1.below bc).more bc.size)
          clear bc
          refine wpAnyH_ready (rs := [7]) (by kernel_rfl) (by simp) ?_
          refine (AllReadyH.cons rfl (fun K hK => ?_) AllReadyH.nil)
          go_simp
          refine hK.out _ _ ⟨cka hHeld.1, cka hHeld.2.1, cka hHeld.2.2.1, cka hHeld.2.2.2.1, cka hHeld.2.2.2.2.1, cka hHeld.2.2.2.2.2.1, cka hHeld.2.2.2.2.2.2.1, cka hHeld.2.2.2.2.2.2.2⟩ (fun hHeld => ?_)
          clear hK K
          (try simp only [List.setIfInBounds_toArray, List.set_cons_zero, List.set_cons_succ])
          obtain ⟨X8, g8, eY, eg⟩ : ∃ Y g, Y = X7.alloc (.cells #[.int .i64 0, .int .i64 0, .int .i64 0, .int .i64 0, .int .i64 0, .slice none 0 0] 37) ∧ g = X7.heap.size := ⟨_, _, rfl, rfl⟩
          rw [← eY, ← eg]
          rw [← eY] at hHeld
          have bc : Below X7.heap.size X7 X8 := by rw [eY]; exact (Below.refl _ _).alloc (Nat.le_refl _) _
          have k_n16 : X8.heap[g8]? = some (.cells #[.int .i64 0, .int .i64 0, .int .i64 0, .int .i64 0, .int .i64 0, .slice none 0 0] 37 (0, 0)) := by rw [eY, eg]; exact heap_alloc_new X7 _
          have lo_n16 : w.heap.size ≤ g8 := by rw [eg]; exact bw.size
          have ne_r_n16 : ¬ w.heap.size = g8 := ne_new k_r eg
          have ne_c_n16 : ¬ w.heap.size + 1 = g8 := ne_new k_c eg
          have ne_q_n16 : ¬ g_q = g8 := ne_new k_q eg
          (try have na_r1 := Rd.ne_new r1 eg)
          replace k_r := bk bc k_r
          replace k_c := bk bc k_c
          replace k_q := bk bc k_q
          replace bw := bst bc bw
          (try replace r1 := (r1.below bc).more bc.size)
          clear bc eY eg
          refine wpAnyH_ready (rs := [8]) (by kernel_rfl) (by simp) ?_
          refine (AllReadyH.cons rfl (fun K hK => ?_) AllReadyH.nil)
          have qq := q6c k_n16
          go_simp
          clear qq
          refine hK.out _ _ ⟨(cks ne_q_n16 (cks ne_q_n16 (cks ne_q_n16 (cks ne_q_n16 (cks ne_q_n16 (cks ne_q_n16 hHeld.1)))))), (cks ne_q_n16 (cks ne_q_n16 (cks ne_q_n16 (cks ne_q_n16 (cks ne_q_n16 (cks ne_q_n16 hHeld.2.1)))))), (cks ne_q_n16 (cks ne_q_n16 (cks ne_q_n16 (cks ne_q_n16 (cks ne_q_n16 (cks ne_q_n16 hHeld.2.2.1)))))), (cks ne_q_n16 (cks ne_q_n16 (cks ne_q_n16 (cks ne_q_n16 (cks ne_q_n16 (cks ne_q_n16 hHeld.2.2.2.1)))))), (cks ne_c_n16 (cks ne_c_n16 (cks ne_c_n16 (cks ne_c_n16 (cks ne_c_n16 (cks ne_c_n16 hHeld.2.2.2.2.1)))))), (cks ne_c_n16 (cks ne_c_n16 (cks ne_c_n16 (cks ne_c_n16 (cks ne_c_n16 (cks ne_c_n16 hHeld.2.2.2.2.2.1)))))), (cks ne_c_n16 (cks ne_c_n16 (cks ne_c_n16 (cks ne_c_n16 (cks ne_c_n16 (cks ne_c_n16 hHeld.2.2.2.2.2.2.1)))))), (cks ne_c_n16 (cks ne_c_n16 (cks ne_c_n16 (cks ne_c_n16 (cks ne_c_n16 (cks ne_c_n16 hHeld.2.2.2.2.2.2.2))))))⟩ (fun hHeld => ?_)
          clear hK K
          (try simp only [List.setIfInBounds_toArray, List.set_cons_zero, List.set_cons_succ])
          obtain ⟨X9, eY⟩ : ∃ Y, Y = ((((((X8.setCell ⟨g8, 0, none⟩ (.int .i64 a)).setCell ⟨g8, 1, none⟩ (.int .i64 b)).setCell ⟨g8, 2, none⟩ (.int .i64 c)).setCell ⟨g8, 3, none⟩ (.int .i64 d)).setCell ⟨g8, 4, none⟩ (.int .i64 (4 * (c - a)))).setCell ⟨g8, 5, none⟩ (.slice A1 N cp1)) := ⟨_, rfl⟩
          rw [← eY] at hHeld ⊢
          replace k_r : X9.heap[w.heap.size]? = some (.cells #[.int .i64 a, .int .i64 b, .int .i64 c, .int .i64 d] 23 (0, 0)) := by rw [eY]; exact (bks ne_r_n16 (bks ne_r_n16 (bks ne_r_n16 (bks ne_r_n16 (bks ne_r_n16 (bks ne_r_n16 k_r))))))
          replace k_c : X9.heap[w.heap.size + 1]? = some (.cells #[.int .i64 z.a, .int .i64 z.b, .int .i64 z.c, .int .i64 z.d] 44 (0, 0)) := by rw [eY]; exact (bks ne_c_n16 (bks ne_c_n16 (bks ne_c_n16 (bks ne_c_n16 (bks ne_c_n16 (bks ne_c_n16 k_c))))))
          replace k_q : X9.heap[g_q]? = some (.cells #[.int .i64 a, .int .i64 b, .int .i64 c, .int .i64 d] 25 (0, 0)) := by rw [eY]; exact (bks ne_q_n16 (bks ne_q_n16 (bks ne_q_n16 (bks ne_q_n16 (bks ne_q_n16 (bks ne_q_n16 k_q))))))
          replace bw : Below w.heap.size w X9 := by rw [eY]; exact (bss lo_n16 (bss lo_n16 (bss lo_n16 (bss lo_n16 (bss lo_n16 (bss lo_n16 bw))))))
          replace k_n16 : X9.heap[g8]? = some (.cells #[.int .i64 a, .int .i64 b, .int .i64 c, .int .i64 d, .int .i64 (4 * (c - a)), .slice A1 N cp1] 37 (0, 0)) := by rw [eY]; exact q6s k_n16
          (try replace r1 := Rd.sized (W := X9) (Rd.sset na_r1 (Rd.sset na_r1 (Rd.sset na_r1 (Rd.sset na_r1 (Rd.sset na_r1 (Rd.sset na_r1 r1)))))) eY)
          clear eY
          refine wpAnyH_done (by kernel_rfl) ?_ _
          go_wp2_with fail
          go_meet
          exact ⟨_, A1, cp1, rfl, k_n16, k_r, k_c, k_q, r1, bw⟩
        · go_simp
          refine hK.out _ _ ⟨cka hHeld.1, cka hHeld.2.1, cka hHeld.2.2.1, cka hHeld.2.2.2.1, cka hHeld.2.2.2.2.1, cka hHeld.2.2.2.2.2.1, cka hHeld.2.2.2.2.2.2.1, cka hHeld.2.2.2.2.2.2.2⟩ (fun hHeld => ?_)
          clear hK K
          (try simp only [List.setIfInBounds_toArray, List.set_cons_zero, List.set_cons_succ])
          obtain ⟨X10, g10, eY, eg⟩ : ∃ Y g, Y = X6.alloc (.cells #[.int .i64 0, .int .i64 0, .int .i64 0, .int .i64 0, .int .i64 0, .slice none 0 0] 37) ∧ g = X6.heap.size := ⟨_, _, rfl, rfl⟩
          rw [← eY, ← eg]
          rw [← eY] at hHeld
          have bc : Below X6.heap.size X6 X10 := by rw [eY]; exact (Below.refl _ _).alloc (Nat.le_refl _) _
          have k_n16 : X10.heap[g10]? = some (.cells #[.int .i64 0, .int .i64 0, .int .i64 0, .int .i64 0, .int .i64 0, .slice none 0 0] 37 (0, 0)) := by rw [eY, eg]; exact heap_alloc_new X6 _
          have lo_n16 : w.heap.size ≤ g10 := by rw [eg]; exact bw.size
          have ne_r_n16 : ¬ w.heap.size = g10 := ne_new k_r eg
          have ne_c_n16 : ¬ w.heap.size + 1 = g10 := ne_new k_c eg
          have ne_q_n16 : ¬ g_q = g10 := ne_new k_q eg
          (try have na_r1 := Rd.ne_new r1 eg)
          replace k_r := bk bc k_r
          replace k_c := bk bc k_c
          replace k_q := bk bc k_q
          replace bw := bst bc bw
          (try replace r1 := (r1.below bc).more bc.size)
          clear bc eY eg
          refine wpAnyH_ready (rs := [6]) (by kernel_rfl) (by simp) ?_
          refine (AllReadyH.cons rfl (fun K hK => ?_) AllReadyH.nil)
          go_simp
          refine (nrgbaWrite_any a b c d N h3 h4 h5 h6 HN.out n cp Z (zs) x y z _ ((HR.out.below bw).more bw.size)).mono ?_
          rintro e X11 ⟨A1, cp1, rfl, r1, lo1, bc⟩
          refine hK.out _ _ ⟨ck bc hHeld.1, ck bc hHeld.2.1, ck bc hHeld.2.2.1, ck bc hHeld.2.2.2.1, ck bc hHeld.2.2.2.2.1, ck bc hHeld.2.2.2.2.2.1, ck bc hHeld.2.2.2.2.2.2.1, ck bc hHeld.2.2.2.2.2.2.2⟩ (fun hHeld => ?_)
          clear hK K
          (try simp only [List.setIfInBounds_toArray, List.set_cons_zero, List.set_cons_succ])
          have na_r1 := lo_ne (n := N) lo1 k_n16
          replace k_r := bk bc k_r
          replace k_c := bk bc k_c
          replace k_q := bk bc k_q
          replace k_n16 := bk bc k_n16
          replace bw := bst bc bw
          (try replace r1 := (r1.below bc).more bc.size)
          clear bc
          refine wpAnyH_ready (rs := [8]) (by kernel_rfl) (by simp) ?_
          refine (AllReadyH.cons rfl (fun K hK => ?_) AllReadyH.nil)
          have qq := q6c k_n16
          go_simp
          clear qq
          refine hK.out _ _ ⟨(cks ne_q_n16 (cks ne_q_n16 (cks ne_q_n16 (cks ne_q_n16 (cks ne_q_n16 (cks ne_q_n16 hHeld.1)))))), (cks ne_q_n16 (cks ne_q_n16 (cks ne_q_n16 (cks ne_q_n16 (cks ne_q_n16 (cks ne_q_n16 hHeld.2.1)))))), (cks ne_q_n16 (cks ne_q_n16 (cks ne_q_n16 (cks ne_q_n16 (cks ne_q_n16 (cks ne_q_n16 hHeld.2.2.1)))))), (cks ne_q_n16 (cks ne_q_n16 (cks ne_q_n16 (cks ne_q_n16 (cks ne_q_n16 (cks ne_q_n16 hHeld.2.2.2.1)))))), (cks ne_c_n16 (cks ne_c_n16 (cks ne_c_n16 (cks ne_c_n16 (cks ne_c_n16 (cks ne_c_n16 hHeld.2.2.2.2.1)))))), (cks ne_c_n16 (cks ne_c_n16 (cks ne_c_n16 (cks ne_c_n16 (cks ne_c_n16 (cks ne_c_n16 hHeld.2.2.2.2.2.1)))))), (cks ne_c_n16 (cks ne_c_n16 (cks ne_c_n16 (cks ne_c_n16 (cks ne_c_n16 (cks ne_c_n16 hHeld.2.2.2.2.2.2.1)))))), (cks ne_c_n16 (cks ne_c_n16 (cks ne_c_n16 (cks ne_c_n16 (cks ne_c_n16 (cks ne_c_n16 hHeld.2.2.2.2.2.2.2))))))⟩ (fun hHeld => ?_)
          clear hK K
          (try simp only [List.setIfInBounds_toArray, List.set_cons_zero, List.set_cons_succ])
          obtain ⟨X12, eY⟩ : ∃ Y, Y = ((((((X11.setCell ⟨g10, 0, none⟩ (.int .i64 a)).setCell ⟨g10, 1, none⟩ (.int .i64 b)).setCell ⟨g10, 2, none⟩ (.int .i64 c)).setCell ⟨g10, 3, none⟩ (.int .i64 d)).setCell ⟨g10, 4, none⟩ (.int .i64 (4 * (c - a)))).setCell ⟨g10, 5, none⟩ (.slice A1 N cp1)) := ⟨_, rfl⟩
          rw [← eY] at hHeld ⊢
          replace k_r : X12.heap[w.heap.size]? = some (.cells #[.int .i64 a, .int .i64 b, .int .i64 c, .int .i64 d] 23 (0, 0)) := by rw [eY]; exact (bks ne_r_n16 (bks ne_r_n16 (bks ne_r_n16 (bks ne_r_n16 (bks ne_r_n16 (bks ne_r_n16 k_r))))))
          replace k_c : X12.heap[w.heap.size + 1]? = some (.cells #[.int .i64 z.a, .int .i64 z.b, .int .i64 z.c, .int .i64 z.d] 44 (0, 0)) := by rw [eY]; exact (bks ne_c_n16 (bks ne_c_n16 (bks ne_c_n16 (bks ne_c_n16 (bks ne_c_n16 (bks ne_c_n16 k_c))))))
          replace k_q : X12.heap[g_q]? = some (.cells #[.int .i64 a, .int .i64 b, .int .i64 c, .int .i64 d] 25 (0, 0)) := by rw [eY]; exact (bks ne_q_n16 (bks ne_q_n16 (bks ne_q_n16 (bks ne_q_n16 (bks ne_q_n16 (bks ne_q_n16 k_q))))))
          replace bw : Below w.heap.size w X12 := by rw [eY]; exact (bss lo_n16 (bss lo_n16 (bss lo_n16 (bss lo_n16 (bss lo_n16 (bss lo_n16 bw))))))
          replace k_n16 : X12.heap[g10]? = some (.cells #[.int .i64 a, .int .i64 b, .int .i64 c, .int .i64 d, .int .i64 (4 * (c - a)), .slice A1 N cp1] 37 (0, 0)) := by rw [eY]; exact q6s k_n16
          (try replace r1 := Rd.sized (W := X12) (Rd.sset na_r1 (Rd.sset na_r1 (Rd.sset na_r1 (Rd.sset na_r1 (Rd.sset na_r1 (Rd.sset na_r1 r1)))))) eY)
          clear eY
          refine wpAnyH_done (by kernel_rfl) ?_ _
          go_wp2_with fail
          go_meet
          exact ⟨_, A1, cp1, rfl, k_n16, k_r, k_c, k_q, r1, bw⟩
      · go_simp
        refine hK.out _ _ ⟨cka hHeld.1, cka hHeld.2.1, cka hHeld.2.2.1, cka hHeld.2.2.2.1, cka hHeld.2.2.2.2.1, cka hHeld.2.2.2.2.2.1, cka hHeld.2.2.2.2.2.2.1, cka hHeld.2.2.2.2.2.2.2⟩ (fun hHeld => ?_)
        clear hK K
        (try simp only [List.setIfInBounds_toArray, List.set_cons_zero, List.set_cons_succ])
        obtain ⟨X13, g13, eY, eg⟩ : ∃ Y g, Y = X5.alloc (.cells #[.int .i64 0, .int .i64 0, .int .i64 0, .int .i64 0, .int .i64 0, .slice none 0 0] 37) ∧ g = X5.heap.size := ⟨_, _, rfl, rfl⟩
        rw [← eY, ← eg]
        rw [← eY] at hHeld
        have bc : Below X5.heap.size X5 X13 := by rw [eY]; exact (Below.refl _ _).alloc (Nat.le_refl _) _
        have k_n16 : X13.heap[g13]? = some (.cells #[.int .i64 0, .int .i64 0, .int .i64 0, .int .i64 0, .int .i64 0, .slice none 0 0] 37 (0, 0)) := by rw [eY, eg]; exact heap_alloc_new X5 _
        have lo_n16 : w.heap.size ≤ g13 := by rw [eg]; exact bw.size
        have ne_r_n16 : ¬ w.heap.size = g13 := ne_new k_r eg
        have ne_c_n16 : ¬ w.heap.size + 1 = g13 := ne_new k_c eg
        have ne_q_n16 : ¬ g_q = g13 := ne_new k_q eg
        (try have na_r1 := Rd.ne_new r1 eg)
        replace k_r := bk bc k_r
        replace k_c := bk bc k_c
        replace k_q := bk bc k_q
        replace bw := bst bc bw
        (try replace r1 := (r1.below bc).more bc.size)
        clear bc eY eg
        refine wpAnyH_ready (rs := [5]) (by kernel_rfl) (by simp) ?_
        refine (AllReadyH.cons rfl (fun K hK => ?_) AllReadyH.nil)
        go_simp
        refine (toColor4 z.a z.b z.c z.d _).mono ?_
        rintro e X14 ⟨rfl, bc⟩
        refine hK.out _ _ ⟨ck bc hHeld.1, ck bc hHeld.2.1, ck bc hHeld.2.2.1, ck bc hHeld.2.2.2.1, ck bc hHeld.2.2.2.2.1, ck bc hHeld.2.2.2.2.2.1, ck bc hHeld.2.2.2.2.2.2.1, ck bc hHeld.2.2.2.2.2.2.2⟩ (fun hHeld => ?_)
        clear hK K
        (try simp only [List.setIfInBounds_toArray, List.set_cons_zero, List.set_cons_succ])
        replace k_r := bk bc k_r
        replace k_c := bk bc k_c
        replace k_q := bk bc k_q
        replace k_n16 := bk bc k_n16
        replace bw := bst bc bw
        (try replace r1 := (r1.below bc).more bc.size)
        clear bc
        refine wpAnyH_ready (rs := [6]) (by kernel_rfl) (by simp) ?_
        refine (AllReadyH.cons rfl (fun K hK => ?_) AllReadyH.nil)
        go_simp
        refine (nrgbaWrite_any a b c d N h3 h4 h5 h6 HN.out n cp Z (zs) x y z _ ((HR.out.below bw).more bw.size)).mono ?_
        rintro e X15 ⟨A1, cp1, rfl, r1, lo1, bc⟩
        refine hK.out _ _ ⟨ck bc hHeld.1, ck bc hHeld.2.1, ck bc hHeld.2.2.1, ck bc hHeld.2.2.2.1, ck bc hHeld.2.2.2.2.1, ck bc hHeld.2.2.2.2.2.1, ck bc hHeld.2.2.2.2.2.2.1, ck bc hHeld.2.2.2.2.2.2.2⟩ (fun hHeld => ?_)
        clear hK K
        (try simp only [List.setIfInBounds_toArray, List.set_cons_zero, List.set_cons_succ])
        have na_r1 := lo_ne (n := N) lo1 k_n16
        replace k_r := bk bc k_r
        replace k_c := bk bc k_c
        replace k_q := bk bc k_q
        replace k_n16 := bk bc k_n16
        replace bw := bst bc bw
        (try replace r1 := (r1.below bc).more bc.size)
        clear bc
        refine wpAnyH_ready (rs := [8]) (by kernel_rfl) (by simp) ?_
        refine (AllReadyH.cons rfl (fun K hK => ?_) AllReadyH.nil)
        have qq := q6c k_n16
        go_simp
        clear qq
        refine hK.out _ _ ⟨(cks ne_q_n16 (cks ne_q_n16 (cks ne_q_n16 (cks ne_q_n16 (cks ne_q_n16 (cks ne_q_n16 hHeld.1)))))), (cks ne_q_n16 (cks ne_q_n16 (cks ne_q_n16 (cks ne_q_n16 (cks ne_q_n16 (cks ne_q_n16 hHeld.2.1)))))), (cks ne_q_n16 (cks ne_q_n16 (cks ne_q_n16 (cks ne_q_n16 (cks ne_q_n16 (cks ne_q_n16 hHeld.2.2.1)))))), (cks ne_q_n16 (cks ne_q_n16 (cks ne_q_n16 (cks ne_q_n16 (cks ne_q_n16 (cks ne_q_n16 hHeld.2.2.2.1)))))), (cks ne_c_n16 (cks ne_c_n16 (cks ne_c_n16 (cks ne_c_n16 (cks ne_c_n16 (cks ne_c_n16 hHeld.2.2.2.2.1)))))), (cks ne_c_n16 (cks ne_c_n16 (cks ne_c_n16 (cks ne_c_n16 (cks ne_c_n16 (cks ne_c_n16 hHeld.2.2.2.2.2.1)))))), (cks ne_c_n16 (cks ne_c_n16 (cks ne_c_n16 (cks ne_c_n16 (cks ne_c_n16 (cks ne_c_n16 hHeld.2.2.2.2.2.2.1)))))), (cks ne_c_n16 (cks ne_c_n16 (cks ne_c_n16 (cks ne_c_n16 (cks ne_c_n16 (cks ne_c_n16 hHeld.2.2.2.2.2.2.2))))))⟩ (fun hHeld => ?_)
        clear hK K
        (try simp only [List.setIfInBounds_toArray, List.set_cons_zero, List.set_cons_succ])
        obtain ⟨X16, eY⟩ : ∃ Y, Y = ((((((X15.setCell ⟨g13, 0, none⟩ (.int .i64 a)).setCell ⟨g13, 1, none⟩ (.int .i64 b)).setCell ⟨g13, 2, none⟩ (.int .i64 c)).setCell ⟨g13, 3, none⟩ (.int .i64 d)).setCell ⟨g13, 4, none⟩ (.int .i64 (4 * (c - a)))).setCell ⟨g13, 5, none⟩ (.slice A1 N cp1)) := ⟨_, rfl⟩
        rw [← eY] at hHeld ⊢
        replace k_r : X16.heap[w.heap.size]? = some (.cells #[.int .i64 a, .int .i64 b, .int .i64 c, .int .i64 d] 23 (0, 0)) := by rw [eY]; exact (bks ne_r_n16 (bks ne_r_n16 (bks ne_r_n16 (bks ne_r_n16 (bks ne_r_n16 (bks ne_r_n16 k_r))))))
        replace k_c : X16.heap[w.heap.size + 1]? = some (.cells #[.int .i64 z.a, .int .i64 z.b, .int .i64 z.c, .int .i64 z.d] 44 (0, 0)) := by rw [eY]; exact (bks ne_c_n16 (bks ne_c_n16 (bks ne_c_n16 (bks ne_c_n16 (bks ne_c_n16 (bks ne_c_n16 k_c))))))
        replace k_q : X16.heap[g_q]? = some (.cells #[.int .i64 a, .int .i64 b, .int .i64 c, .int .i64 d] 25 (0, 0)) := by rw [eY]; exact (bks ne_q_n16 (bks ne_q_n16 (bks ne_q_n16 (bks ne_q_n16 (bks ne_q_n16 (bks ne_q_n16 k_q))))))
        replace bw : Below w.heap.size w X16 := by rw [eY]; exact (bss lo_n16 (bss lo_n16 (bss lo_n16 (bss lo_n16 (bss lo_n16 (bss lo_n16 bw))))))
        replace k_n16 : X16.heap[g13]? = some (.cells #[.int .i64 a, .int .i64 b, .int .i64 c, .int .i64 d, .int .i64 (4 * (c - a)), .slice A1 N cp1] 37 (0, 0)) := by rw [eY]; exact q6s k_n16
        (try replace r1 := Rd.sized (W := X16) (Rd.sset na_r1 (Rd.sset na_r1 (Rd.sset na_r1 (Rd.sset na_r1 (Rd.sset na_r1 (Rd.sset na_r1 r1)))))) eY)
        clear eY
        refine wpAnyH_done (by kernel_rfl) ?_ _
        go_wp2_with fail
        go_meet
        exact ⟨_, A1, cp1, rfl, k_n16, k_r, k_c, k_q, r1, bw⟩
    case rest =>
      clear k_r k_c k_q bw
      obtain ⟨g_p, A1, cp1, rfl, k_p, k_r, k_c, k_q, R1, BW⟩ := hcut
      have bw := BW.out
      clear BW
      have r1 := R1.out
      clear R1
      go_upto_region 5 with fail
      refine wp_region_held_drew (S := fun w' => w'.cell? ⟨g_q, 0, none⟩ = some (.int .i64 a) ∧ w'.cell? ⟨g_q, 1, none⟩ = some (.int .i64 b) ∧ w'.cell? ⟨g_q, 2, none⟩ = some (.int .i64 c) ∧ w'.cell? ⟨g_q, 3, none⟩ = some (.int .i64 d) ∧ w'.cell? ⟨g_p, 0, none⟩ = some (.int .i64 a) ∧ w'.cell? ⟨g_p, 1, none⟩ = some (.int .i64 b) ∧ w'.cell? ⟨g_p, 2, none⟩ = some (.int .i64 c) ∧ w'.cell? ⟨g_p, 3, none⟩ = some (.int .i64 d) ∧ w'.cell? ⟨g_p, 4, none⟩ = some (.int .i64 (4 * (c - a))) ∧ w'.cell? ⟨g_p, 5, none⟩ = some (.slice A1 N cp1) ∧ w'.cell? ⟨w.heap.size + 1, 0, none⟩ = some (.int .i64 z.a) ∧ w'.cell? ⟨w.heap.size + 1, 1, none⟩ = some (.int .i64 z.b) ∧ w'.cell? ⟨w.heap.size + 1, 2, none⟩ = some (.int .i64 z.c) ∧ w'.cell? ⟨w.heap.size + 1, 3, none⟩ = some (.int .i64 z.d)) (by kernel_rfl) ⟨(q4c k_q).1.1, (q4c k_q).1.2.1, (q4c k_q).1.2.2.1, (q4c k_q).1.2.2.2, (q6c k_p).1.1, (q6c k_p).1.2.1, (q6c k_p).1.2.2.1, (q6c k_p).1.2.2.2.1, (q6c k_p).1.2.2.2.2.1, (q6c k_p).1.2.2.2.2.2, (q4c k_c).1.1, (q4c k_c).1.2.1, (q4c k_c).1.2.2.1, (q4c k_c).1.2.2.2⟩ ?_
      intro hHeld
      obtain ⟨X18, eX, bc⟩ : ∃ X, X = wc.drew ∧ Below wc.heap.size wc X := ⟨_, rfl, (Below.refl _ _).drew⟩
      rw [← eX] at hHeld ⊢
      replace k_r := bk bc k_r
      replace k_c := bk bc k_c
      replace k_q := bk bc k_q
      replace k_p := bk bc k_p
      replace bw := bst bc bw
      (try replace r1 := (r1.below bc).more bc.size)
      clear eX bc
      refine takx (i := 0) (D := 43) (v := .agg #[.int .i64 a, .int .i64 b, .int .i64 c, .int .i64 d]) rfl rfl (by kernel_rfl) (by kernel_rfl) (by kernel_rfl) (fun _ _ _ h => h) (Or.inl ⟨by rfl, fun W hSw => by (try dsimp only at hSw); go_simp⟩) (by assumption) ?_
      (try simp only [List.setIfInBounds_toArray, List.set_cons_zero, List.set_cons_succ])
      refine takx (i := 1) (D := 44) (v := .pointer (some ⟨g_p, 5, none⟩)) rfl rfl (by kernel_rfl) (by kernel_rfl) (by kernel_rfl) (fun _ _ _ h => h) (Or.inl ⟨by rfl, fun W hSw => by (try dsimp only at hSw); go_simp⟩) (by assumption) ?_
      (try simp only [List.setIfInBounds_toArray, List.set_cons_zero, List.set_cons_succ])
      refine takx (i := 2) (D := 45) (v := .slice A1 N cp1) rfl rfl (by kernel_rfl) (by kernel_rfl) (by kernel_rfl) (fun _ _ _ h => h) (Or.inl ⟨by rfl, fun W hSw => by (try dsimp only at hSw); go_simp⟩) (by assumption) ?_
      (try simp only [List.setIfInBounds_toArray, List.set_cons_zero, List.set_cons_succ])
      refine takx (i := 3) (D := 46) (v := .int .i64 x) rfl rfl (by kernel_rfl) (by kernel_rfl) (by kernel_rfl) (fun _ _ _ h => h) (Or.inl ⟨by rfl, fun W hSw => by (try dsimp only at hSw); go_simp⟩) (by assumption) ?_
      (try simp only [List.setIfInBounds_toArray, List.set_cons_zero, List.set_cons_succ])
      refine takx (i := 4) (D := 47) (v := .int .i64 y) rfl rfl (by kernel_rfl) (by kernel_rfl) (by kernel_rfl) (fun _ _ _ h => h) (Or.inl ⟨by rfl, fun W hSw => by (try dsimp only at hSw); go_simp⟩) (by assumption) ?_
      (try simp only [List.setIfInBounds_toArray, List.set_cons_zero, List.set_cons_succ])
      refine takx (i := 6) (D := 49) (v := .agg #[.int .i64 z.a, .int .i64 z.b, .int .i64 z.c, .int .i64 z.d]) rfl rfl (by kernel_rfl) (by kernel_rfl) (by kernel_rfl) (fun _ _ _ h => h) (Or.inl ⟨by rfl, fun W hSw => by (try dsimp only at hSw); go_simp⟩) (by assumption) ?_
      (try simp only [List.setIfInBounds_toArray, List.set_cons_zero, List.set_cons_succ])
      refine wpAnyH_ready (rs := [5]) (by kernel_rfl) (by simp) ?_
      refine (AllReadyH.cons rfl (fun K hK => ?_) AllReadyH.nil)
      go_simp
      refine ((nrgbaRead_any a b c d N h3 h4 h5 h6 HN.out N cp1 A1 (wrAt (byt N zs) a b c d x y z) x y _ r1).mono (fun e w' h => (⟨h.1.trans (by rw [(byt_self (by rw [wrAt_length, byt_length]) (wrAt_ok (byt_ok _ _))), rd_wr_same HN.out (byt_length _ _) HI.out]), h.2⟩ : e = Ending.returned (.agg #[.int .i64 (low4 z).a, .int .i64 (low4 z).b, .int .i64 (low4 z).c, .int .i64 (low4 z).d]) ∧ _))).mono ?_
      rintro e X19 ⟨rfl, bc⟩
      refine hK.out _ _ ⟨ck bc hHeld.1, ck bc hHeld.2.1, ck bc hHeld.2.2.1, ck bc hHeld.2.2.2.1, ck bc hHeld.2.2.2.2.1, ck bc hHeld.2.2.2.2.2.1, ck bc hHeld.2.2.2.2.2.2.1, ck bc hHeld.2.2.2.2.2.2.2.1, ck bc hHeld.2.2.2.2.2.2.2.2.1, ck bc hHeld.2.2.2.2.2.2.2.2.2.1, ck bc hHeld.2.2.2.2.2.2.2.2.2.2.1, ck bc hHeld.2.2.2.2.2.2.2.2.2.2.2.1, ck bc hHeld.2.2.2.2.2.2.2.2.2.2.2.2.1, ck bc hHeld.2.2.2.2.2.2.2.2.2.2.2.2.2⟩ (fun hHeld => ?_)
      clear hK K
      (try simp only [List.setIfInBounds_toArray, List.set_cons_zero, List.set_cons_succ])
      replace k_r := bk bc k_r
      replace k_c := bk bc k_c
      replace k_q := bk bc k_q
      replace k_p := bk bc k_p
      replace bw := bst bc bw
      (try replace r1 := (r1.below bc).more bc.size)
      clear bc
      refine wpAnyH_ready (rs := [7]) (by kernel_rfl) (by simp) ?_
      refine (AllReadyH.cons rfl (fun K hK => ?_) AllReadyH.nil)
      go_simp
      refine (lowColor4 z Hz.out _).mono ?_
      rintro e X20 ⟨rfl, bc⟩
      refine hK.out _ _ ⟨ck bc hHeld.1, ck bc hHeld.2.1, ck bc hHeld.2.2.1, ck bc hHeld.2.2.2.1, ck bc hHeld.2.2.2.2.1, ck bc hHeld.2.2.2.2.2.1, ck bc hHeld.2.2.2.2.2.2.1, ck bc hHeld.2.2.2.2.2.2.2.1, ck bc hHeld.2.2.2.2.2.2.2.2.1, ck bc hHeld.2.2.2.2.2.2.2.2.2.1, ck bc hHeld.2.2.2.2.2.2.2.2.2.2.1, ck bc hHeld.2.2.2.2.2.2.2.2.2.2.2.1, ck bc hHeld.2.2.2.2.2.2.2.2.2.2.2.2.1, ck bc hHeld.2.2.2.2.2.2.2.2.2.2.2.2.2⟩ (fun hHeld => ?_)
      clear hK K
      (try simp only [List.setIfInBounds_toArray, List.set_cons_zero, List.set_cons_succ])
      replace k_r := bk bc k_r
      replace k_c := bk bc k_c
      replace k_q := bk bc k_q
      replace k_p := bk bc k_p
      replace bw := bst bc bw
      (try replace r1 := (r1.below bc).more bc.size)
      clear bc
      refine takx (i := 8) (D := 51) (v := .bool false) rfl rfl (by kernel_rfl) (by kernel_rfl) (by kernel_rfl) (fun _ _ _ h => h) (Or.inl ⟨by rfl, fun W hSw => by (try dsimp only at hSw); go_simp⟩) (by assumption) ?_
      (try simp only [List.setIfInBounds_toArray, List.set_cons_zero, List.set_cons_succ])
      refine wpAnyH_done (by kernel_rfl) ?_ _
      clear hHeld
      go_upto_region 7 with fail
      refine wp_region_held_drew (S := fun w' => w'.cell? ⟨g_q, 0, none⟩ = some (.int .i64 a) ∧ w'.cell? ⟨g_q, 1, none⟩ = some (.int .i64 b) ∧ w'.cell? ⟨g_q, 2, none⟩ = some (.int .i64 c) ∧ w'.cell? ⟨g_q, 3, none⟩ = some (.int .i64 d) ∧ w'.cell? ⟨g_p, 0, none⟩ = some (.int .i64 a) ∧ w'.cell? ⟨g_p, 1, none⟩ = some (.int .i64 b) ∧ w'.cell? ⟨g_p, 2, none⟩ = some (.int .i64 c) ∧ w'.cell? ⟨g_p, 3, none⟩ = some (.int .i64 d) ∧ w'.cell? ⟨g_p, 4, none⟩ = some (.int .i64 (4 * (c - a))) ∧ w'.cell? ⟨g_p, 5, none⟩ = some (.slice A1 N cp1)) (by kernel_rfl) ⟨(q4c k_q).1.1, (q4c k_q).1.2.1, (q4c k_q).1.2.2.1, (q4c k_q).1.2.2.2, (q6c k_p).1.1, (q6c k_p).1.2.1, (q6c k_p).1.2.2.1, (q6c k_p).1.2.2.2.1, (q6c k_p).1.2.2.2.2.1, (q6c k_p).1.2.2.2.2.2⟩ ?_
      intro hHeld
      obtain ⟨X22, eX, bc⟩ : ∃ X, X = X20.drew ∧ Below X20.heap.size X20 X := ⟨_, rfl, (Below.refl _ _).drew⟩
      rw [← eX] at hHeld ⊢
      replace k_r := bk bc k_r
      replace k_c := bk bc k_c
      replace k_q := bk bc k_q
      replace k_p := bk bc k_p
      replace bw := bst bc bw
      (try replace r1 := (r1.below bc).more bc.size)
      clear eX bc
      refine takx (i := 0) (D := 52) (v := .int .i64 x) rfl rfl (by kernel_rfl) (by kernel_rfl) (by kernel_rfl) (fun _ _ _ h => h) (Or.inl ⟨by rfl, fun W hSw => by (try dsimp only at hSw); go_simp⟩) (by assumption) ?_
      (try simp only [List.setIfInBounds_toArray, List.set_cons_zero, List.set_cons_succ])
      refine takx (i := 1) (D := 53) (v := .int .i64 x) rfl rfl (by kernel_rfl) (by kernel_rfl) (by kernel_rfl) (fun _ _ _ h => h) (Or.inl ⟨by rfl, fun W hSw => by (try dsimp only at hSw); go_simp⟩) (by assumption) ?_
      (try simp only [List.setIfInBounds_toArray, List.set_cons_zero, List.set_cons_succ])
      refine takx (i := 2) (D := 54) (v := .bool true) rfl rfl (by kernel_rfl) (by kernel_rfl) (by kernel_rfl) (fun _ _ _ h => h) (Or.inl ⟨by rfl, fun W hSw => by (try dsimp only at hSw); go_simp⟩) (by assumption) ?_
      (try simp only [List.setIfInBounds_toArray, List.set_cons_zero, List.set_cons_succ])
      refine takx (i := 3) (D := 55) (v := .bool true) rfl rfl (by kernel_rfl) (by kernel_rfl) (by kernel_rfl) (fun _ _ _ h => h) (Or.inl ⟨by rfl, fun W hSw => by (try dsimp only at hSw); go_simp⟩) (by assumption) ?_
      (try simp only [List.setIfInBounds_toArray, List.set_cons_zero, List.set_cons_succ])
      refine takx (i := 4) (D := 56) (v := .int .i64 y) rfl rfl (by kernel_rfl) (by kernel_rfl) (by kernel_rfl) (fun _ _ _ h => h) (Or.inl ⟨by rfl, fun W hSw => by (try dsimp only at hSw); go_simp⟩) (by assumption) ?_
      (try simp only [List.setIfInBounds_toArray, List.set_cons_zero, List.set_cons_succ])
      refine takx (i := 5) (D := 57) (v := .int .i64 y) rfl rfl (by kernel_rfl) (by kernel_rfl) (by kernel_rfl) (fun _ _ _ h => h) (Or.inl ⟨by rfl, fun W hSw => by (try dsimp only at hSw); go_simp⟩) (by assumption) ?_
      (try simp only [List.setIfInBounds_toArray, List.set_cons_zero, List.set_cons_succ])
      refine takx (i := 6) (D := 58) (v := .bool true) rfl rfl (by kernel_rfl) (by kernel_rfl) (by kernel_rfl) (fun _ _ _ h => h) (Or.inl ⟨by rfl, fun W hSw => by (try dsimp only at hSw); go_simp⟩) (by assumption) ?_
      (try simp only [List.setIfInBounds_toArray, List.set_cons_zero, List.set_cons_succ])
      refine takx (i := 7) (D := 59) (v := .bool true) rfl rfl (by kernel_rfl) (by kernel_rfl) (by kernel_rfl) (fun _ _ _ h => h) (Or.inl ⟨by rfl, fun W hSw => by (try dsimp only at hSw); go_simp⟩) (by assumption) ?_
      (try simp only [List.setIfInBounds_toArray, List.set_cons_zero, List.set_cons_succ])
      refine takx (i := 8) (D := 60) (v := .bool true) rfl rfl (by kernel_rfl) (by kernel_rfl) (by kernel_rfl) (fun _ _ _ h => h) (Or.inl ⟨by rfl, fun W hSw => by (try dsimp only at hSw); go_simp⟩) (by assumption) ?_
      (try simp only [List.setIfInBounds_toArray, List.set_cons_zero, List.set_cons_succ])
      refine takx (i := 9) (D := 61) (v := undef) rfl rfl (by kernel_rfl) (by kernel_rfl) (by kernel_rfl) (fun _ _ _ h => h) (Or.inr ⟨by rfl, rfl⟩) (by assumption) ?_
      (try simp only [List.setIfInBounds_toArray, List.set_cons_zero, List.set_cons_succ])
      refine takx (i := 10) (D := 62) (v := undef) rfl rfl (by kernel_rfl) (by kernel_rfl) (by kernel_rfl) (fun _ _ _ h => h) (Or.inr ⟨by rfl, rfl⟩) (by assumption) ?_
      (try simp only [List.setIfInBounds_toArray, List.set_cons_zero, List.set_cons_succ])
      refine takx (i := 11) (D := 63) (v := undef) rfl rfl (by kernel_rfl) (by kernel_rfl) (by kernel_rfl) (fun _ _ _ h => h) (Or.inr ⟨by rfl, rfl⟩) (by assumption) ?_
      (try simp only [List.setIfInBounds_toArray, List.set_cons_zero, List.set_cons_succ])
      refine takx (i := 12) (D := 64) (v := undef) rfl rfl (by kernel_rfl) (by kernel_rfl) (by kernel_rfl) (fun _ _ _ h => h) (Or.inr ⟨by rfl, rfl⟩) (by assumption) ?_
      (try simp only [List.setIfInBounds_toArray, List.set_cons_zero, List.set_cons_succ])
      refine takx (i := 13) (D := 65) (v := undef) rfl rfl (by kernel_rfl) (by kernel_rfl) (by kernel_rfl) (fun _ _ _ h => h) (Or.inr ⟨by rfl, rfl⟩) (by assumption) ?_
      (try simp only [List.setIfInBounds_toArray, List.set_cons_zero, List.set_cons_succ])
      refine takx (i := 14) (D := 66) (v := undef) rfl rfl (by kernel_rfl) (by kernel_rfl) (by kernel_rfl) (fun _ _ _ h => h) (Or.inr ⟨by rfl, rfl⟩) (by assumption) ?_
      (try simp only [List.setIfInBounds_toArray, List.set_cons_zero, List.set_cons_succ])
      refine takx (i := 15) (D := 67) (v := undef) rfl rfl (by kernel_rfl) (by kernel_rfl) (by kernel_rfl) (fun _ _ _ h => h) (Or.inr ⟨by rfl, rfl⟩) (by assumption) ?_
      (try simp only [List.setIfInBounds_toArray, List.set_cons_zero, List.set_cons_succ])
      refine takx (i := 16) (D := 68) (v := undef) rfl rfl (by kernel_rfl) (by kernel_rfl) (by kernel_rfl) (fun _ _ _ h => h) (Or.inr ⟨by rfl, rfl⟩) (by assumption) ?_
      (try simp only [List.setIfInBounds_toArray, List.set_cons_zero, List.set_cons_succ])
      refine takx (i := 17) (D := 69) (v := undef) rfl rfl (by kernel_rfl) (by kernel_rfl) (by kernel_rfl) (fun _ _ _ h => h) (Or.inr ⟨by rfl, rfl⟩) (by assumption) ?_
      (try simp only [List.setIfInBounds_toArray, List.set_cons_zero, List.set_cons_succ])
      refine takx (i := 18) (D := 70) (v := undef) rfl rfl (by kernel_rfl) (by kernel_rfl) (by kernel_rfl) (fun _ _ _ h => h) (Or.inr ⟨by rfl, rfl⟩) (by assumption) ?_
      (try simp only [List.setIfInBounds_toArray, List.set_cons_zero, List.set_cons_succ])
      refine takx (i := 19) (D := 71) (v := undef) rfl rfl (by kernel_rfl) (by kernel_rfl) (by kernel_rfl) (fun _ _ _ h => h) (Or.inr ⟨by rfl, rfl⟩) (by assumption) ?_
      (try simp only [List.setIfInBounds_toArray, List.set_cons_zero, List.set_cons_succ])
      refine takx (i := 20) (D := 72) (v := undef) rfl rfl (by kernel_rfl) (by kernel_rfl) (by kernel_rfl) (fun _ _ _ h => h) (Or.inr ⟨by rfl, rfl⟩) (by assumption) ?_
      (try simp only [List.setIfInBounds_toArray, List.set_cons_zero, List.set_cons_succ])
      refine takx (i := 21) (D := 73) (v := .bool true) rfl rfl (by kernel_rfl) (by kernel_rfl) (by kernel_rfl) (fun _ _ _ h => h) (Or.inl ⟨by rfl, fun W hSw => by (try dsimp only at hSw); go_simp⟩) (by assumption) ?_
      (try simp only [List.setIfInBounds_toArray, List.set_cons_zero, List.set_cons_succ])
      refine takx (i := 22) (D := 14) (v := .bool true) rfl rfl (by kernel_rfl) (by kernel_rfl) (by kernel_rfl) (fun _ _ _ h => h) (Or.inl ⟨by rfl, fun W hSw => by (try dsimp only at hSw); go_simp⟩) (by assumption) ?_
      (try simp only [List.setIfInBounds_toArray, List.set_cons_zero, List.set_cons_succ])
      refine wpAnyH_done (by kernel_rfl) ?_ _
      clear hHeld
      go_wp2
      go_ret
      exact ⟨rfl, bw⟩
  have HXY := Lib.hid hxy
  by_cases hx1 : x = u
  case pos =>
    have hy1 : ¬ y = v := fun h => hxy ⟨hx1, h⟩
    have t1 : (x == u) = true := by simpa using hx1
    have t2 : (y == v) = false := by simpa using hy1
    clear hxy hx1
    go_enter Try.func17, Try.ntmps17
    go_wp2_with fail
    refine (toRect4 a b c d _).mono ?_
    rintro e w1 ⟨rfl, bc⟩
    have bw := bst bc (bsa (bsa (Below.refl _ _)))
    have k_r : w1.heap[w.heap.size]? = some (.cells #[.int .i64 a, .int .i64 b, .int .i64 c, .int .i64 d] 23 (0, 0)) := by have := bk bc (bka (heap_alloc_new w _)); simpa using this
    have k_c : w1.heap[w.heap.size + 1]? = some (.cells #[.int .i64 z.a, .int .i64 z.b, .int .i64 z.c, .int .i64 z.d] 44 (0, 0)) := by have := bk bc (heap_alloc_new (w.alloc (.cells #[.int .i64 a, .int .i64 b, .int .i64 c, .int .i64 d] 23)) _); simpa using this
    clear bc
    go_upto_region 2 with fail
    obtain ⟨Y1, g_q, eY, eg⟩ : ∃ Y g, Y = w1.alloc (.cells #[.int .i64 a, .int .i64 b, .int .i64 c, .int .i64 d] 25) ∧ g = w1.heap.size := ⟨_, _, rfl, rfl⟩
    rw [← eY, ← eg]
    have bc : Below w1.heap.size w1 Y1 := by rw [eY]; exact (Below.refl _ _).alloc (Nat.le_refl _) _
    have k_q : Y1.heap[g_q]? = some (.cells #[.int .i64 a, .int .i64 b, .int .i64 c, .int .i64 d] 25 (0, 0)) := by rw [eY, eg]; exact heap_alloc_new w1 _
    replace k_r := bk bc k_r
    replace k_c := bk bc k_c
    replace bw := bst bc bw
    clear bc eY eg
    have q_r := q4c k_r
    have q_c := q4c k_c
    have q_q := q4c k_q
    go_wp2_with fail
    refine (fine_yes a b c d HF.out _).mono ?_
    rintro e Y2 ⟨rfl, bc⟩
    clear q_r q_c q_q
    replace k_r := bk bc k_r
    replace k_c := bk bc k_c
    replace k_q := bk bc k_q
    replace bw := bst bc bw
    clear bc
    have q_r := q4c k_r
    have q_c := q4c k_c
    have q_q := q4c k_q
    go_wp2_with fail
    refine (has_yes a b c d x y HI.out _).mono ?_
    rintro e Y3 ⟨rfl, bc⟩
    clear q_r q_c q_q
    replace k_r := bk bc k_r
    replace k_c := bk bc k_c
    replace k_q := bk bc k_q
    replace bw := bst bc bw
    clear bc
    have q_r := q4c k_r
    have q_c := q4c k_c
    have q_q := q4c k_q
    go_wp2_with fail
    refine (has_yes a b c d u v HJ.out _).mono ?_
    rintro e Y4 ⟨rfl, bc⟩
    clear q_r q_c q_q
    replace k_r := bk bc k_r
    replace k_c := bk bc k_c
    replace k_q := bk bc k_q
    replace bw := bst bc bw
    clear bc
    go_upto_region 4 with fail
    go_cut [16] (fun s16 wx => ∃ (g_p : Nat) (A1 : Option Addr) (cp1 : Nat), s16 = .pointer (some ⟨g_p, 0, none⟩) ∧ wx.heap[g_p]? = some (.cells #[.int .i64 a, .int .i64 b, .int .i64 c, .int .i64 d, .int .i64 (4 * (c - a)), .slice A1 N cp1] 37 (0, 0)) ∧ wx.heap[w.heap.size]? = some (.cells #[.int .i64 a, .int .i64 b, .int .i64 c, .int .i64 d] 23 (0, 0)) ∧ wx.heap[w.heap.size + 1]? = some (.cells #[.int .i64 z.a, .int .i64 z.b, .int .i64 z.c, .int .i64 z.d] 44 (0, 0)) ∧ wx.heap[g_q]? = some (.cells #[.int .i64 a, .int .i64 b, .int .i64 c, .int .i64 d] 25 (0, 0)) ∧ Hid (Rd wx wx.heap.size A1 N (wrAt (byt N zs) a b c d x y z)) ∧ Hid (Below w.heap.size w wx))
    case first =>
      refine wp_region_held_drew (S := fun w' => w'.cell? ⟨g_q, 0, none⟩ = some (.int .i64 a) ∧ w'.cell? ⟨g_q, 1, none⟩ = some (.int .i64 b) ∧ w'.cell? ⟨g_q, 2, none⟩ = some (.int .i64 c) ∧ w'.cell? ⟨g_q, 3, none⟩ = some (.int .i64 d) ∧ w'.cell? ⟨w.heap.size + 1, 0, none⟩ = some (.int .i64 z.a) ∧ w'.cell? ⟨w.heap.size + 1, 1, none⟩ = some (.int .i64 z.b) ∧ w'.cell? ⟨w.heap.size + 1, 2, none⟩ = some (.int .i64 z.c) ∧ w'.cell? ⟨w.heap.size + 1, 3, none⟩ = some (.int .i64 z.d)) (by kernel_rfl) ⟨(q4c k_q).1.1, (q4c k_q).1.2.1, (q4c k_q).1.2.2.1, (q4c k_q).1.2.2.2, (q4c k_c).1.1, (q4c k_c).1.2.1, (q4c k_c).1.2.2.1, (q4c k_c).1.2.2.2⟩ ?_
      intro hHeld
      obtain ⟨X5, eX, bc⟩ : ∃ X, X = Y4.drew ∧ Below Y4.heap.size Y4 X := ⟨_, rfl, (Below.refl _ _).drew⟩
      rw [← eX] at hHeld ⊢
      replace k_r := bk bc k_r
      replace k_c := bk bc k_c
      replace k_q := bk bc k_q
      replace bw := bst bc bw
      (try replace r1 := (r1.below bc).more bc.size)
      clear eX bc
      refine takx (i := 0) (D := 36) (v := .agg #[.int .i64 a, .int .i64 b, .int .i64 c, .int .i64 d]) rfl rfl (by kernel_rfl) (by kernel_rfl) (by kernel_rfl) (fun _ _ _ h => h) (Or.inl ⟨by rfl, fun W hSw => by (try dsimp only at hSw); go_simp⟩) (by assumption) ?_
      (try simp only [List.setIfInBounds_toArray, List.set_cons_zero, List.set_cons_succ])
      refine takx (i := 1) (D := 37) (v := .slice Z n cp) rfl rfl (by kernel_rfl) (by kernel_rfl) (by kernel_rfl) (fun _ _ _ h => h) (Or.inl ⟨by rfl, fun W hSw => by (try dsimp only at hSw); go_simp⟩) (by assumption) ?_
      (try simp only [List.setIfInBounds_toArray, List.set_cons_zero, List.set_cons_succ])
      refine takx (i := 2) (D := 38) (v := .int .i64 x) rfl rfl (by kernel_rfl) (by kernel_rfl) (by kernel_rfl) (fun _ _ _ h => h) (Or.inl ⟨by rfl, fun W hSw => by (try dsimp only at hSw); go_simp⟩) (by assumption) ?_
      (try simp only [List.setIfInBounds_toArray, List.set_cons_zero, List.set_cons_succ])
      refine takx (i := 3) (D := 39) (v := .int .i64 y) rfl rfl (by kernel_rfl) (by kernel_rfl) (by kernel_rfl) (fun _ _ _ h => h) (Or.inl ⟨by rfl, fun W hSw => by (try dsimp only at hSw); go_simp⟩) (by assumption) ?_
      (try simp only [List.setIfInBounds_toArray, List.set_cons_zero, List.set_cons_succ])
      refine takx (i := 4) (D := 40) (v := .agg #[.int .i64 z.a, .int .i64 z.b, .int .i64 z.c, .int .i64 z.d]) rfl rfl (by kernel_rfl) (by kernel_rfl) (by kernel_rfl) (fun _ _ _ h => h) (Or.inl ⟨by rfl, fun W hSw => by (try dsimp only at hSw); go_simp⟩) (by assumption) ?_
      (try simp only [List.setIfInBounds_toArray, List.set_cons_zero, List.set_cons_succ])
      refine wpAnyH_ready (rs := [5, 7]) (by kernel_rfl) (by simp) ?_
      refine (AllReadyH.cons rfl (fun K hK => ?_) (AllReadyH.cons rfl (fun K hK => ?_) AllReadyH.nil))
      · go_simp
        refine (toColor4 z.a z.b z.c z.d _).mono ?_
        rintro e X6 ⟨rfl, bc⟩
        refine hK.out _ _ ⟨ck bc hHeld.1, ck bc hHeld.2.1, ck bc hHeld.2.2.1, ck bc hHeld.2.2.2.1, ck bc hHeld.2.2.2.2.1, ck bc hHeld.2.2.2.2.2.1, ck bc hHeld.2.2.2.2.2.2.1, ck bc hHeld.2.2.2.2.2.2.2⟩ (fun hHeld => ?_)
        clear hK K
        (try simp only [List.setIfInBounds_toArray, List.set_cons_zero, List.set_cons_succ])
        replace k_r := bk bc k_r
        replace k_c := bk bc k_c
        replace k_q := bk bc k_q
        replace bw := bst bc bw
        (try replace r1 := (r1.below bc).more bc.size)
        clear bc
        refine wpAnyH_ready (rs := [6, 7]) (by kernel_rfl) (by simp) ?_
        refine (AllReadyH.cons rfl (fun K hK => ?_) (AllReadyH.cons rfl (fun K hK => ?_) AllReadyH.nil))
        · go_simp
          refine (nrgbaWrite_any a b c d N h3 h4 h5 h6 HN.out n cp Z (zs) x y z _ ((HR.out.below bw).more bw.size)).mono ?_
          rintro e X7 ⟨A1, cp1, rfl, r1, lo1, bc⟩
          refine hK.out _ _ ⟨ck bc hHeld.1, ck bc hHeld.2.1, ck bc hHeld.2.2.1, ck bc hHeld.2.2.2.1, ck bc hHeld.2.2.2.2.1, ck bc hHeld.2.2.2.2.2.1, ck bc hHeld.2.2.2.2.2.2.1, ck bc hHeld.2.2.2.2.2.2.2⟩ (fun hHeld => ?_)
          clear hK K
          (try simp only [List.setIfInBounds_toArray, List.set_cons_zero, List.set_cons_succ])
          replace k_r := bk bc k_r
          replace k_c := bk bc k_c
          replace k_q := bk bc k_q
          replace bw := bst bc bw
          (try replace r1 := (r1.below bc).more bc.size)
          clear bc
          refine wpAnyH_ready (rs := [7]) (by kernel_rfl) (by simp) ?_
          refine (AllReadyH.cons rfl (fun K hK => ?_) AllReadyH.nil)
          go_simp
          refine hK.out _ _ ⟨cka hHeld.1, cka hHeld.2.1, cka hHeld.2.2.1, cka hHeld.2.2.2.1, cka hHeld.2.2.2.2.1, cka hHeld.2.2.2.2.2.1, cka hHeld.2.2.2.2.2.2.1, cka hHeld.2.2.2.2.2.2.2⟩ (fun hHeld => ?_)
          clear hK K
          (try simp only [List.setIfInBounds_toArray, List.set_cons_zero, List.set_cons_succ])
          obtain ⟨X8, g8, eY, eg⟩ : ∃ Y g, Y = X7.alloc (.cells #[.int .i64 0, .int .i64 0, .int .i64 0, .int .i64 0, .int .i64 0, .slice none 0 0] 37) ∧ g = X7.heap.size := ⟨_, _, rfl, rfl⟩
          rw [← eY, ← eg]
          rw [← eY] at hHeld
          have bc : Below X7.heap.size X7 X8 := by rw [eY]; exact (Below.refl _ _).alloc (Nat.le_refl _) _
          have k_n16 : X8.heap[g8]? = some (.cells #[.int .i64 0, .int .i64 0, .int .i64 0, .int .i64 0, .int .i64 0, .slice none 0 0] 37 (0, 0)) := by rw [eY, eg]; exact heap_alloc_new X7 _
          have lo_n16 : w.heap.size ≤ g8 := by rw [eg]; exact bw.size
          have ne_r_n16 : ¬ w.heap.size = g8 := ne_new k_r eg
          have ne_c_n16 : ¬ w.heap.size + 1 = g8 := ne_new k_c eg
          have ne_q_n16 : ¬ g_q = g8 := ne_new k_q eg
          (try have na_r1 := Rd.ne_new r1 eg)
          replace k_r := bk bc k_r
          replace k_c := bk bc k_c
          replace k_q := bk bc k_q
          replace bw := bst bc bw
          (try replace r1 := (r1.below bc).more bc.size)
          clear bc eY eg
          refine wpAnyH_ready (rs := [8]) (by kernel_rfl) (by simp) ?_
          refine (AllReadyH.cons rfl (fun K hK => ?_) AllReadyH.nil)
          have qq := q6c k_n16
          go_simp
          clear qq
          refine hK.out _ _ ⟨(cks ne_q_n16 (cks ne_q_n16 (cks ne_q_n16 (cks ne_q_n16 (cks ne_q_n16 (cks ne_q_n16 hHeld.1)))))), (cks ne_q_n16 (cks ne_q_n16 (cks ne_q_n16 (cks ne_q_n16 (cks ne_q_n16 (cks ne_q_n16 hHeld.2.1)))))), (cks ne_q_n16 (cks ne_q_n16 (cks ne_q_n16 (cks ne_q_n16 (cks ne_q_n16 (cks ne_q_n16 hHeld.2.2.1)))))), (cks ne_q_n16 (cks ne_q_n16 (cks ne_q_n16 (cks ne_q_n16 (cks ne_q_n16 (cks ne_q_n16 hHeld.2.2.2.1)))))), (cks ne_c_n16 (cks ne_c_n16 (cks ne_c_n16 (cks ne_c_n16 (cks ne_c_n16 (cks ne_c_n16 hHeld.2.2.2.2.1)))))), (cks ne_c_n16 (cks ne_c_n16 (cks ne_c_n16 (cks ne_c_n16 (cks ne_c_n16 (cks ne_c_n16 hHeld.2.2.2.2.2.1)))))), (cks ne_c_n16 (cks ne_c_n16 (cks ne_c_n16 (cks ne_c_n16 (cks ne_c_n16 (cks ne_c_n16 hHeld.2.2.2.2.2.2.1)))))), (cks ne_c_n16 (cks ne_c_n16 (cks ne_c_n16 (cks ne_c_n16 (cks ne_c_n16 (cks ne_c_n16 hHeld.2.2.2.2.2.2.2))))))⟩ (fun hHeld => ?_)
          clear hK K
          (try simp only [List.setIfInBounds_toArray, List.set_cons_zero, List.set_cons_succ])
          obtain ⟨X9, eY⟩ : ∃ Y, Y = ((((((X8.setCell ⟨g8, 0, none⟩ (.int .i64 a)).setCell ⟨g8, 1, none⟩ (.int .i64 b)).setCell ⟨g8, 2, none⟩ (.int .i64 c)).setCell ⟨g8, 3, none⟩ (.int .i64 d)).setCell ⟨g8, 4, none⟩ (.int .i64 (4 * (c - a)))).setCell ⟨g8, 5, none⟩ (.slice A1 N cp1)) := ⟨_, rfl⟩
          rw [← eY] at hHeld ⊢
          replace k_r : X9.heap[w.heap.size]? = some (.cells #[.int .i64 a, .int .i64 b, .int .i64 c, .int .i64 d] 23 (0, 0)) := by rw [eY]; exact (bks ne_r_n16 (bks ne_r_n16 (bks ne_r_n16 (bks ne_r_n16 (bks ne_r_n16 (bks ne_r_n16 k_r))))))
          replace k_c : X9.heap[w.heap.size + 1]? = some (.cells #[.int .i64 z.a, .int .i64 z.b, .int .i64 z.c, .int .i64 z.d] 44 (0, 0)) := by rw [eY]; exact (bks ne_c_n16 (bks ne_c_n16 (bks ne_c_n16 (bks ne_c_n16 (bks ne_c_n16 (bks ne_c_n16 k_c))))))
          replace k_q : X9.heap[g_q]? = some (.cells #[.int .i64 a, .int .i64 b, .int .i64 c, .int .i64 d] 25 (0, 0)) := by rw [eY]; exact (bks ne_q_n16 (bks ne_q_n16 (bks ne_q_n16 (bks ne_q_n16 (bks ne_q_n16 (bks ne_q_n16 k_q))))))
          replace bw : Below w.heap.size w X9 := by rw [eY]; exact (bss lo_n16 (bss lo_n16 (bss lo_n16 (bss lo_n16 (bss lo_n16 (bss lo_n16 bw))))))
          replace k_n16 : X9.heap[g8]? = some (.cells #[.int .i64 a, .int .i64 b, .int .i64 c, .int .i64 d, .int .i64 (4 * (c - a)), .slice A1 N cp1] 37 (0, 0)) := by rw [eY]; exact q6s k_n16
          (try replace r1 := Rd.sized (W := X9) (Rd.sset na_r1 (Rd.sset na_r1 (Rd.sset na_r1 (Rd.sset na_r1 (Rd.sset na_r1 (Rd.sset na_r1 r1)))))) eY)
          clear eY
          refine wpAnyH_done (by kernel_rfl) ?_ _
          go_wp2_with fail
          go_meet
          exact ⟨_, A1, cp1, rfl, k_n16, k_r, k_c, k_q, r1, bw⟩
        · go_simp
          refine hK.out _ _ ⟨cka hHeld.1, cka hHeld.2.1, cka hHeld.2.2.1, cka hHeld.2.2.2.1, cka hHeld.2.2.2.2.1, cka hHeld.2.2.2.2.2.1, cka hHeld.2.2.2.2.2.2.1, cka hHeld.2.2.2.2.2.2.2⟩ (fun hHeld => ?_)
          clear hK K
          (try simp only [List.setIfInBounds_toArray, List.set_cons_zero, List.set_cons_succ])
          obtain ⟨X10, g10, eY, eg⟩ : ∃ Y g, Y = X6.alloc (.cells #[.int .i64 0, .int .i64 0, .int .i64 0, .int .i64 0, .int .i64 0, .slice none 0 0] 37) ∧ g = X6.heap.size := ⟨_, _, rfl, rfl⟩
          rw [← eY, ← eg]
          rw [← eY] at hHeld
          have bc : Below X6.heap.size X6 X10 := by rw [eY]; exact (Below.refl _ _).alloc (Nat.le_refl _) _
          have k_n16 : X10.heap[g10]? = some (.cells #[.int .i64 0, .int .i64 0, .int .i64 0, .int .i64 0, .int .i64 0, .slice none 0 0] 37 (0, 0)) := by rw [eY, eg]; exact heap_alloc_new X6 _
          have lo_n16 : w.heap.size ≤ g10 := by rw [eg]; exact bw.size
          have ne_r_n16 : ¬ w.heap.size = g10 := ne_new k_r eg
          have ne_c_n16 : ¬ w.heap.size + 1 = g10 := ne_new k_c eg
          have ne_q_n16 : ¬ g_q = g10 := ne_new k_q eg
          (try have na_r1 := Rd.ne_new r1 eg)
          replace k_r := bk bc k_r
          replace k_c := bk bc k_c
          replace k_q := bk bc k_q
          replace bw := bst bc bw
          (try replace r1 := (r1.below bc).more bc.size)
          clear bc eY eg
          refine wpAnyH_ready (rs := [6]) (by kernel_rfl) (by simp) ?_
          refine (AllReadyH.cons rfl (fun K hK => ?_) AllReadyH.nil)
          go_simp
          refine (nrgbaWrite_any a b c d N h3 h4 h5 h6 HN.out n cp Z (zs) x y z _ ((HR.out.below bw).more bw.size)).mono ?_
          rintro e X11 ⟨A1, cp1, rfl, r1, lo1, bc⟩
          refine hK.out _ _ ⟨ck bc hHeld.1, ck bc hHeld.2.1, ck bc hHeld.2.2.1, ck bc hHeld.2.2.2.1, ck bc hHeld.2.2.2.2.1, ck bc hHeld.2.2.2.2.2.1, ck bc hHeld.2.2.2.2.2.2.1, ck bc hHeld.2.2.2.2.2.2.2⟩ (fun hHeld => ?_)
          clear hK K
          (try simp only [List.setIfInBounds_toArray, List.set_cons_zero, List.set_cons_succ])
          have na_r1 := lo_ne (n := N) lo1 k_n16
          replace k_r := bk bc k_r
          replace k_c := bk bc k_c
          replace k_q := bk bc k_q
          replace k_n16 := bk bc k_n16
          replace bw := bst bc bw
          (try replace r1 := (r1.below bc).more bc.size)
          clear bc
          refine wpAnyH_ready (rs := [8]) (by kernel_rfl) (by simp) ?_
          refine (AllReadyH.cons rfl (fun K hK => ?_) AllReadyH.nil)
          have qq := q6c k_n16
          go_simp
          clear qq
          refine hK.out _ _ ⟨(cks ne_q_n16 (cks ne_q_n16 (cks ne_q_n16 (cks ne_q_n16 (cks ne_q_n16 (cks ne_q_n16 hHeld.1)))))), (cks ne_q_n16 (cks ne_q_n16 (cks ne_q_n16 (cks ne_q_n16 (cks ne_q_n16 (cks ne_q_n16 hHeld.2.1)))))), (cks ne_q_n16 (cks ne_q_n16 (cks ne_q_n16 (cks ne_q_n16 (cks ne_q_n16 (cks ne_q_n16 hHeld.2.2.1)))))), (cks ne_q_n16 (cks ne_q_n16 (cks ne_q_n16 (cks ne_q_n16 (cks ne_q_n16 (cks ne_q_n16 hHeld.2.2.2.1)))))), (cks ne_c_n16 (cks ne_c_n16 (cks ne_c_n16 (cks ne_c_n16 (cks ne_c_n16 (cks ne_c_n16 hHeld.2.2.2.2.1)))))), (cks ne_c_n16 (cks ne_c_n16 (cks ne_c_n16 (cks ne_c_n16 (cks ne_c_n16 (cks ne_c_n16 hHeld.2.2.2.2.2.1)))))), (cks ne_c_n16 (cks ne_c_n16 (cks ne_c_n16 (cks ne_c_n16 (cks ne_c_n16 (cks ne_c_n16 hHeld.2.2.2.2.2.2.1)))))), (cks ne_c_n16 (cks ne_c_n16 (cks ne_c_n16 (cks ne_c_n16 (cks ne_c_n16 (cks ne_c_n16 hHeld.2.2.2.2.2.2.2))))))⟩ (fun hHeld => ?_)
          clear hK K
          (try simp only [List.setIfInBounds_toArray, List.set_cons_zero, List.set_cons_succ])
          obtain ⟨X12, eY⟩ : ∃ Y, Y = ((((((X11.setCell ⟨g10, 0, none⟩ (.int .i64 a)).setCell ⟨g10, 1, none⟩ (.int .i64 b)).setCell ⟨g10, 2, none⟩ (.int .i64 c)).setCell ⟨g10, 3, none⟩ (.int .i64 d)).setCell ⟨g10, 4, none⟩ (.int .i64 (4 * (c - a)))).setCell ⟨g10, 5, none⟩ (.slice A1 N cp1)) := ⟨_, rfl⟩
          rw [← eY] at hHeld ⊢
          replace k_r : X12.heap[w.heap.size]? = some (.cells #[.int .i64 a, .int .i64 b, .int .i64 c, .int .i64 d] 23 (0, 0)) := by rw [eY]; exact (bks ne_r_n16 (bks ne_r_n16 (bks ne_r_n16 (bks ne_r_n16 (bks ne_r_n16 (bks ne_r_n16 k_r))))))
          replace k_c : X12.heap[w.heap.size + 1]? = some (.cells #[.int .i64 z.a, .int .i64 z.b, .int .i64 z.c, .int .i64 z.d] 44 (0, 0)) := by rw [eY]; exact (bks ne_c_n16 (bks ne_c_n16 (bks ne_c_n16 (bks ne_c_n16 (bks ne_c_n16 (bks ne_c_n16 k_c))))))
          replace k_q : X12.heap[g_q]? = some (.cells #[.int .i64 a, .int .i64 b, .int .i64 c, .int .i64 d] 25 (0, 0)) := by rw [eY]; exact (bks ne_q_n16 (bks ne_q_n16 (bks ne_q_n16 (bks ne_q_n16 (bks ne_q_n16 (bks ne_q_n16 k_q))))))
          replace bw : Below w.heap.size w X12 := by rw [eY]; exact (bss lo_n16 (bss lo_n16 (bss lo_n16 (bss lo_n16 (bss lo_n16 (bss lo_n16 bw))))))
          replace k_n16 : X12.heap[g10]? = some (.cells #[.int .i64 a, .int .i64 b, .int .i64 c, .int .i64 d, .int .i64 (4 * (c - a)), .slice A1 N cp1] 37 (0, 0)) := by rw [eY]; exact q6s k_n16
          (try replace r1 := Rd.sized (W := X12) (Rd.sset na_r1 (Rd.sset na_r1 (Rd.sset na_r1 (Rd.sset na_r1 (Rd.sset na_r1 (Rd.sset na_r1 r1)))))) eY)
          clear eY
          refine wpAnyH_done (by kernel_rfl) ?_ _
          go_wp2_with fail
          go_meet
          exact ⟨_, A1, cp1, rfl, k_n16, k_r, k_c, k_q, r1, bw⟩
      · go_simp
        refine hK.out _ _ ⟨cka hHeld.1, cka hHeld.2.1, cka hHeld.2.2.1, cka hHeld.2.2.2.1, cka hHeld.2.2.2.2.1, cka hHeld.2.2.2.2.2.1, cka hHeld.2.2.2.2.2.2.1, cka hHeld.2.2.2.2.2.2.2⟩ (fun hHeld => ?_)
        clear hK K
        (try simp only [List.setIfInBounds_toArray, List.set_cons_zero, List.set_cons_succ])
        obtain ⟨X13, g13, eY, eg⟩ : ∃ Y g, Y = X5.alloc (.cells #[.int .i64 0, .int .i64 0, .int .i64 0, .int .i64 0, .int .i64 0, .slice none 0 0] 37) ∧ g = X5.heap.size := ⟨_, _, rfl, rfl⟩
        rw [← eY, ← eg]
        rw [← eY] at hHeld
        have bc : Below X5.heap.size X5 X13 := by rw [eY]; exact (Below.refl _ _).alloc (Nat.le_refl _) _
        have k_n16 : X13.heap[g13]? = some (.cells #[.int .i64 0, .int .i64 0, .int .i64 0, .int .i64 0, .int .i64 0, .slice none 0 0] 37 (0, 0)) := by rw [eY, eg]; exact heap_alloc_new X5 _
        have lo_n16 : w.heap.size ≤ g13 := by rw [eg]; exact bw.size
        have ne_r_n16 : ¬ w.heap.size = g13 := ne_new k_r eg
        have ne_c_n16 : ¬ w.heap.size + 1 = g13 := ne_new k_c eg
        have ne_q_n16 : ¬ g_q = g13 := ne_new k_q eg
        (try have na_r1 := Rd.ne_new r1 eg)
        replace k_r := bk bc k_r
        replace k_c := bk bc k_c
        replace k_q := bk bc k_q
        replace bw := bst bc bw
        (try replace r1 := (r1.below bc).more bc.size)
        clear bc eY eg
        refine wpAnyH_ready (rs := [5]) (by kernel_rfl) (by simp) ?_
        refine (AllReadyH.cons rfl (fun K hK => ?_) AllReadyH.nil)
        go_simp
        refine (toColor4 z.a z.b z.c z.d _).mono ?_
        rintro e X14 ⟨rfl, bc⟩
        refine hK.out _ _ ⟨ck bc hHeld.1, ck bc hHeld.2.1, ck bc hHeld.2.2.1, ck bc hHeld.2.2.2.1, ck bc hHeld.2.2.2.2.1, ck bc hHeld.2.2.2.2.2.1, ck bc hHeld.2.2.2.2.2.2.1, ck bc hHeld.2.2.2.2.2.2.2⟩ (fun hHeld => ?_)
        clear hK K
        (try simp only [List.setIfInBounds_toArray, List.set_cons_zero, List.set_cons_succ])
        replace k_r := bk bc k_r
        replace k_c := bk bc k_c
        replace k_q := bk bc k_q
        replace k_n16 := bk bc k_n16
        replace bw := bst bc bw
        (try replace r1 := (r1.below bc).more bc.size)
        clear bc
        refine wpAnyH_ready (rs := [6]) (by kernel_rfl) (by simp) ?_
        refine (AllReadyH.cons rfl (fun K hK => ?_) AllReadyH.nil)
        go_simp
        refine (nrgbaWrite_any a b c d N h3 h4 h5 h6 HN.out n cp Z (zs) x y z _ ((HR.out.below bw).more bw.size)).mono ?_
        rintro e X15 ⟨A1, cp1, rfl, r1, lo1, bc⟩
        refine hK.out _ _ ⟨ck bc hHeld.1, ck bc hHeld.2.1, ck bc hHeld.2.2.1, ck bc hHeld.2.2.2.1, ck bc hHeld.2.2.2.2.1, ck bc hHeld.2.2.2.2.2.1, ck bc hHeld.2.2.2.2.2.2.1, ck bc hHeld.2.2.2.2.2.2.2⟩ (fun hHeld => ?_)
        clear hK K
        (try simp only [List.setIfInBounds_toArray, List.set_cons_zero, List.set_cons_succ])
        have na_r1 := lo_ne (n := N) lo1 k_n16
        replace k_r := bk bc k_r
        replace k_c := bk bc k_c
        replace k_q := bk bc k_q
        replace k_n16 := bk bc k_n16
        replace bw := bst bc bw
        (try replace r1 := (r1.below bc).more bc.size)
        clear bc
        refine wpAnyH_ready (rs := [8]) (by kernel_rfl) (by simp) ?_
        refine (AllReadyH.cons rfl (fun K hK => ?_) AllReadyH.nil)
        have qq := q6c k_n16
        go_simp
        clear qq
        refine hK.out _ _ ⟨(cks ne_q_n16 (cks ne_q_n16 (cks ne_q_n16 (cks ne_q_n16 (cks ne_q_n16 (cks ne_q_n16 hHeld.1)))))), (cks ne_q_n16 (cks ne_q_n16 (cks ne_q_n16 (cks ne_q_n16 (cks ne_q_n16 (cks ne_q_n16 hHeld.2.1)))))), (cks ne_q_n16 (cks ne_q_n16 (cks ne_q_n16 (cks ne_q_n16 (cks ne_q_n16 (cks ne_q_n16 hHeld.2.2.1)))))), (cks ne_q_n16 (cks ne_q_n16 (cks ne_q_n16 (cks ne_q_n16 (cks ne_q_n16 (cks ne_q_n16 hHeld.2.2.2.1)))))), (cks ne_c_n16 (cks ne_c_n16 (cks ne_c_n16 (cks ne_c_n16 (cks ne_c_n16 (cks ne_c_n16 hHeld.2.2.2.2.1)))))), (cks ne_c_n16 (cks ne_c_n16 (cks ne_c_n16 (cks ne_c_n16 (cks ne_c_n16 (cks ne_c_n16 hHeld.2.2.2.2.2.1)))))), (cks ne_c_n16 (cks ne_c_n16 (cks ne_c_n16 (cks ne_c_n16 (cks ne_c_n16 (cks ne_c_n16 hHeld.2.2.2.2.2.2.1)))))), (cks ne_c_n16 (cks ne_c_n16 (cks ne_c_n16 (cks ne_c_n16 (cks ne_c_n16 (cks ne_c_n16 hHeld.2.2.2.2.2.2.2))))))⟩ (fun hHeld => ?_)
        clear hK K
        (try simp only [List.setIfInBounds_toArray, List.set_cons_zero, List.set_cons_succ])
        obtain ⟨X16, eY⟩ : ∃ Y, Y = ((((((X15.setCell ⟨g13, 0, none⟩ (.int .i64 a)).setCell ⟨g13, 1, none⟩ (.int .i64 b)).setCell ⟨g13, 2, none⟩ (.int .i64 c)).setCell ⟨g13, 3, none⟩ (.int .i64 d)).setCell ⟨g13, 4, none⟩ (.int .i64 (4 * (c - a)))).setCell ⟨g13, 5, none⟩ (.slice A1 N cp1)) := ⟨_, rfl⟩
        rw [← eY] at hHeld ⊢
        replace k_r : X16.heap[w.heap.size]? = some (.cells #[.int .i64 a, .int .i64 b, .int .i64 c, .int .i64 d] 23 (0, 0)) := by rw [eY]; exact (bks ne_r_n16 (bks ne_r_n16 (bks ne_r_n16 (bks ne_r_n16 (bks ne_r_n16 (bks ne_r_n16 k_r))))))
        replace k_c : X16.heap[w.heap.size + 1]? = some (.cells #[.int .i64 z.a, .int .i64 z.b, .int .i64 z.c, .int .i64 z.d] 44 (0, 0)) := by rw [eY]; exact (bks ne_c_n16 (bks ne_c_n16 (bks ne_c_n16 (bks ne_c_n16 (bks ne_c_n16 (bks ne_c_n16 k_c))))))
        replace k_q : X16.heap[g_q]? = some (.cells #[.int .i64 a, .int .i64 b, .int .i64 c, .int .i64 d] 25 (0, 0)) := by rw [eY]; exact (bks ne_q_n16 (bks ne_q_n16 (bks ne_q_n16 (bks ne_q_n16 (bks ne_q_n16 (bks ne_q_n16 k_q))))))
        replace bw : Below w.heap.size w X16 := by rw [eY]; exact (bss lo_n16 (bss lo_n16 (bss lo_n16 (bss lo_n16 (bss lo_n16 (bss lo_n16 bw))))))
        replace k_n16 : X16.heap[g13]? = some (.cells #[.int .i64 a, .int .i64 b, .int .i64 c, .int .i64 d, .int .i64 (4 * (c - a)), .slice A1 N cp1] 37 (0, 0)) := by rw [eY]; exact q6s k_n16
        (try replace r1 := Rd.sized (W := X16) (Rd.sset na_r1 (Rd.sset na_r1 (Rd.sset na_r1 (Rd.sset na_r1 (Rd.sset na_r1 (Rd.sset na_r1 r1)))))) eY)
        clear eY
        refine wpAnyH_done (by kernel_rfl) ?_ _
        go_wp2_with fail
        go_meet
        exact ⟨_, A1, cp1, rfl, k_n16, k_r, k_c, k_q, r1, bw⟩
    case rest =>
      clear k_r k_c k_q bw
      obtain ⟨g_p, A1, cp1, rfl, k_p, k_r, k_c, k_q, R1, BW⟩ := hcut
      have bw := BW.out
      clear BW
      have r1 := R1.out
      clear R1
      go_upto_region 5 with fail
      refine wp_region_held_drew (S := fun w' => w'.cell? ⟨g_q, 0, none⟩ = some (.int .i64 a) ∧ w'.cell? ⟨g_q, 1, none⟩ = some (.int .i64 b) ∧ w'.cell? ⟨g_q, 2, none⟩ = some (.int .i64 c) ∧ w'.cell? ⟨g_q, 3, none⟩ = some (.int .i64 d) ∧ w'.cell? ⟨g_p, 0, none⟩ = some (.int .i64 a) ∧ w'.cell? ⟨g_p, 1, none⟩ = some (.int .i64 b) ∧ w'.cell? ⟨g_p, 2, none⟩ = some (.int .i64 c) ∧ w'.cell? ⟨g_p, 3, none⟩ = some (.int .i64 d) ∧ w'.cell? ⟨g_p, 4, none⟩ = some (.int .i64 (4 * (c - a))) ∧ w'.cell? ⟨g_p, 5, none⟩ = some (.slice A1 N cp1) ∧ w'.cell? ⟨w.heap.size + 1, 0, none⟩ = some (.int .i64 z.a) ∧ w'.cell? ⟨w.heap.size + 1, 1, none⟩ = some (.int .i64 z.b) ∧ w'.cell? ⟨w.heap.size + 1, 2, none⟩ = some (.int .i64 z.c) ∧ w'.cell? ⟨w.heap.size + 1, 3, none⟩ = some (.int .i64 z.d)) (by kernel_rfl) ⟨(q4c k_q).1.1, (q4c k_q).1.2.1, (q4c k_q).1.2.2.1, (q4c k_q).1.2.2.2, (q6c k_p).1.1, (q6c k_p).1.2.1, (q6c k_p).1.2.2.1, (q6c k_p).1.2.2.2.1, (q6c k_p).1.2.2.2.2.1, (q6c k_p).1.2.2.2.2.2, (q4c k_c).1.1, (q4c k_c).1.2.1, (q4c k_c).1.2.2.1, (q4c k_c).1.2.2.2⟩ ?_
      intro hHeld
      obtain ⟨X18, eX, bc⟩ : ∃ X, X = wc.drew ∧ Below wc.heap.size wc X := ⟨_, rfl, (Below.refl _ _).drew⟩
      rw [← eX] at hHeld ⊢
      replace k_r := bk bc k_r
      replace k_c := bk bc k_c
      replace k_q := bk bc k_q
      replace k_p := bk bc k_p
      replace bw := bst bc bw
      (try replace r1 := (r1.below bc).more bc.size)
      clear eX bc
      refine takx (i := 0) (D := 43) (v := .agg #[.int .i64 a, .int .i64 b, .int .i64 c, .int .i64 d]) rfl rfl (by kernel_rfl) (by kernel_rfl) (by kernel_rfl) (fun _ _ _ h => h) (Or.inl ⟨by rfl, fun W hSw => by (try dsimp only at hSw); go_simp⟩) (by assumption) ?_
      (try simp only [List.setIfInBounds_toArray, List.set_cons_zero, List.set_cons_succ])
      refine takx (i := 1) (D := 44) (v := .pointer (some ⟨g_p, 5, none⟩)) rfl rfl (by kernel_rfl) (by kernel_rfl) (by kernel_rfl) (fun _ _ _ h => h) (Or.inl ⟨by rfl, fun W hSw => by (try dsimp only at hSw); go_simp⟩) (by assumption) ?_
      (try simp only [List.setIfInBounds_toArray, List.set_cons_zero, List.set_cons_succ])
      refine takx (i := 2) (D := 45) (v := .slice A1 N cp1) rfl rfl (by kernel_rfl) (by kernel_rfl) (by kernel_rfl) (fun _ _ _ h => h) (Or.inl ⟨by rfl, fun W hSw => by (try dsimp only at hSw); go_simp⟩) (by assumption) ?_
      (try simp only [List.setIfInBounds_toArray, List.set_cons_zero, List.set_cons_succ])
      refine takx (i := 3) (D := 46) (v := .int .i64 x) rfl rfl (by kernel_rfl) (by kernel_rfl) (by kernel_rfl) (fun _ _ _ h => h) (Or.inl ⟨by rfl, fun W hSw => by (try dsimp only at hSw); go_simp⟩) (by assumption) ?_
      (try simp only [List.setIfInBounds_toArray, List.set_cons_zero, List.set_cons_succ])
      refine takx (i := 4) (D := 47) (v := .int .i64 y) rfl rfl (by kernel_rfl) (by kernel_rfl) (by kernel_rfl) (fun _ _ _ h => h) (Or.inl ⟨by rfl, fun W hSw => by (try dsimp only at hSw); go_simp⟩) (by assumption) ?_
      (try simp only [List.setIfInBounds_toArray, List.set_cons_zero, List.set_cons_succ])
      refine takx (i := 6) (D := 49) (v := .agg #[.int .i64 z.a, .int .i64 z.b, .int .i64 z.c, .int .i64 z.d]) rfl rfl (by kernel_rfl) (by kernel_rfl) (by kernel_rfl) (fun _ _ _ h => h) (Or.inl ⟨by rfl, fun W hSw => by (try dsimp only at hSw); go_simp⟩) (by assumption) ?_
      (try simp only [List.setIfInBounds_toArray, List.set_cons_zero, List.set_cons_succ])
      refine wpAnyH_ready (rs := [5]) (by kernel_rfl) (by simp) ?_
      refine (AllReadyH.cons rfl (fun K hK => ?_) AllReadyH.nil)
      go_simp
      refine ((nrgbaRead_any a b c d N h3 h4 h5 h6 HN.out N cp1 A1 (wrAt (byt N zs) a b c d x y z) x y _ r1).mono (fun e w' h => (⟨h.1.trans (by rw [(byt_self (by rw [wrAt_length, byt_length]) (wrAt_ok (byt_ok _ _))), rd_wr_same HN.out (byt_length _ _) HI.out]), h.2⟩ : e = Ending.returned (.agg #[.int .i64 (low4 z).a, .int .i64 (low4 z).b, .int .i64 (low4 z).c, .int .i64 (low4 z).d]) ∧ _))).mono ?_
      rintro e X19 ⟨rfl, bc⟩
      refine hK.out _ _ ⟨ck bc hHeld.1, ck bc hHeld.2.1, ck bc hHeld.2.2.1, ck bc hHeld.2.2.2.1, ck bc hHeld.2.2.2.2.1, ck bc hHeld.2.2.2.2.2.1, ck bc hHeld.2.2.2.2.2.2.1, ck bc hHeld.2.2.2.2.2.2.2.1, ck bc hHeld.2.2.2.2.2.2.2.2.1, ck bc hHeld.2.2.2.2.2.2.2.2.2.1, ck bc hHeld.2.2.2.2.2.2.2.2.2.2.1, ck bc hHeld.2.2.2.2.2.2.2.2.2.2.2.1, ck bc hHeld.2.2.2.2.2.2.2.2.2.2.2.2.1, ck bc hHeld.2.2.2.2.2.2.2.2.2.2.2.2.2⟩ (fun hHeld => ?_)
      clear hK K
      (try simp only [List.setIfInBounds_toArray, List.set_cons_zero, List.set_cons_succ])
      replace k_r := bk bc k_r
      replace k_c := bk bc k_c
      replace k_q := bk bc k_q
      replace k_p := bk bc k_p
      replace bw := bst bc bw
      (try replace r1 := (r1.below bc).more bc.size)
      clear bc
      refine wpAnyH_ready (rs := [7]) (by kernel_rfl) (by simp) ?_
      refine (AllReadyH.cons rfl (fun K hK => ?_) AllReadyH.nil)
      go_simp
      refine (lowColor4 z Hz.out _).mono ?_
      rintro e X20 ⟨rfl, bc⟩
      refine hK.out _ _ ⟨ck bc hHeld.1, ck bc hHeld.2.1, ck bc hHeld.2.2.1, ck bc hHeld.2.2.2.1, ck bc hHeld.2.2.2.2.1, ck bc hHeld.2.2.2.2.2.1, ck bc hHeld.2.2.2.2.2.2.1, ck bc hHeld.2.2.2.2.2.2.2.1, ck bc hHeld.2.2.2.2.2.2.2.2.1, ck bc hHeld.2.2.2.2.2.2.2.2.2.1, ck bc hHeld.2.2.2.2.2.2.2.2.2.2.1, ck bc hHeld.2.2.2.2.2.2.2.2.2.2.2.1, ck bc hHeld.2.2.2.2.2.2.2.2.2.2.2.2.1, ck bc hHeld.2.2.2.2.2.2.2.2.2.2.2.2.2⟩ (fun hHeld => ?_)
      clear hK K
      (try simp only [List.setIfInBounds_toArray, List.set_cons_zero, List.set_cons_succ])
      replace k_r := bk bc k_r
      replace k_c := bk bc k_c
      replace k_q := bk bc k_q
      replace k_p := bk bc k_p
      replace bw := bst bc bw
      (try replace r1 := (r1.below bc).more bc.size)
      clear bc
      refine takx (i := 8) (D := 51) (v := .bool false) rfl rfl (by kernel_rfl) (by kernel_rfl) (by kernel_rfl) (fun _ _ _ h => h) (Or.inl ⟨by rfl, fun W hSw => by (try dsimp only at hSw); go_simp⟩) (by assumption) ?_
      (try simp only [List.setIfInBounds_toArray, List.set_cons_zero, List.set_cons_succ])
      refine wpAnyH_done (by kernel_rfl) ?_ _
      clear hHeld
      go_upto_region 7 with fail
      refine wp_region_held_drew (S := fun w' => w'.cell? ⟨g_q, 0, none⟩ = some (.int .i64 a) ∧ w'.cell? ⟨g_q, 1, none⟩ = some (.int .i64 b) ∧ w'.cell? ⟨g_q, 2, none⟩ = some (.int .i64 c) ∧ w'.cell? ⟨g_q, 3, none⟩ = some (.int .i64 d) ∧ w'.cell? ⟨g_p, 0, none⟩ = some (.int .i64 a) ∧ w'.cell? ⟨g_p, 1, none⟩ = some (.int .i64 b) ∧ w'.cell? ⟨g_p, 2, none⟩ = some (.int .i64 c) ∧ w'.cell? ⟨g_p, 3, none⟩ = some (.int .i64 d) ∧ w'.cell? ⟨g_p, 4, none⟩ = some (.int .i64 (4 * (c - a))) ∧ w'.cell? ⟨g_p, 5, none⟩ = some (.slice A1 N cp1)) (by kernel_rfl) ⟨(q4c k_q).1.1, (q4c k_q).1.2.1, (q4c k_q).1.2.2.1, (q4c k_q).1.2.2.2, (q6c k_p).1.1, (q6c k_p).1.2.1, (q6c k_p).1.2.2.1, (q6c k_p).1.2.2.2.1, (q6c k_p).1.2.2.2.2.1, (q6c k_p).1.2.2.2.2.2⟩ ?_
      intro hHeld
      obtain ⟨X22, eX, bc⟩ : ∃ X, X = X20.drew ∧ Below X20.heap.size X20 X := ⟨_, rfl, (Below.refl _ _).drew⟩
      rw [← eX] at hHeld ⊢
      replace k_r := bk bc k_r
      replace k_c := bk bc k_c
      replace k_q := bk bc k_q
      replace k_p := bk bc k_p
      replace bw := bst bc bw
      (try replace r1 := (r1.below bc).more bc.size)
      clear eX bc
      refine takx (i := 0) (D := 52) (v := .int .i64 x) rfl rfl (by kernel_rfl) (by kernel_rfl) (by kernel_rfl) (fun _ _ _ h => h) (Or.inl ⟨by rfl, fun W hSw => by (try dsimp only at hSw); go_simp⟩) (by assumption) ?_
      (try simp only [List.setIfInBounds_toArray, List.set_cons_zero, List.set_cons_succ])
      refine takx (i := 1) (D := 53) (v := .int .i64 u) rfl rfl (by kernel_rfl) (by kernel_rfl) (by kernel_rfl) (fun _ _ _ h => h) (Or.inl ⟨by rfl, fun W hSw => by (try dsimp only at hSw); go_simp⟩) (by assumption) ?_
      (try simp only [List.setIfInBounds_toArray, List.set_cons_zero, List.set_cons_succ])
      refine takx (i := 2) (D := 54) (v := .bool true) rfl rfl (by kernel_rfl) (by kernel_rfl) (by kernel_rfl) (fun _ _ _ h => h) (Or.inl ⟨by rfl, fun W hSw => by (try dsimp only at hSw); go_simp⟩) (by assumption) ?_
      (try simp only [List.setIfInBounds_toArray, List.set_cons_zero, List.set_cons_succ])
      refine takx (i := 3) (D := 55) (v := .bool true) rfl rfl (by kernel_rfl) (by kernel_rfl) (by kernel_rfl) (fun _ _ _ h => h) (Or.inl ⟨by rfl, fun W hSw => by (try dsimp only at hSw); go_simp⟩) (by assumption) ?_
      (try simp only [List.setIfInBounds_toArray, List.set_cons_zero, List.set_cons_succ])
      refine takx (i := 4) (D := 56) (v := .int .i64 y) rfl rfl (by kernel_rfl) (by kernel_rfl) (by kernel_rfl) (fun _ _ _ h => h) (Or.inl ⟨by rfl, fun W hSw => by (try dsimp only at hSw); go_simp⟩) (by assumption) ?_
      (try simp only [List.setIfInBounds_toArray, List.set_cons_zero, List.set_cons_succ])
      refine takx (i := 5) (D := 57) (v := .int .i64 v) rfl rfl (by kernel_rfl) (by kernel_rfl) (by kernel_rfl) (fun _ _ _ h => h) (Or.inl ⟨by rfl, fun W hSw => by (try dsimp only at hSw); go_simp⟩) (by assumption) ?_
      (try simp only [List.setIfInBounds_toArray, List.set_cons_zero, List.set_cons_succ])
      refine takx (i := 6) (D := 58) (v := .bool false) rfl rfl (by kernel_rfl) (by kernel_rfl) (by kernel_rfl) (fun _ _ _ h => h) (Or.inl ⟨by rfl, fun W hSw => by (try dsimp only at hSw); go_simp⟩) (by assumption) ?_
      (try simp only [List.setIfInBounds_toArray, List.set_cons_zero, List.set_cons_succ])
      refine takx (i := 7) (D := 59) (v := .bool false) rfl rfl (by kernel_rfl) (by kernel_rfl) (by kernel_rfl) (fun _ _ _ h => h) (Or.inl ⟨by rfl, fun W hSw => by (try dsimp only at hSw); go_simp⟩) (by assumption) ?_
      (try simp only [List.setIfInBounds_toArray, List.set_cons_zero, List.set_cons_succ])
      refine takx (i := 8) (D := 60) (v := .bool false) rfl rfl (by kernel_rfl) (by kernel_rfl) (by kernel_rfl) (fun _ _ _ h => h) (Or.inl ⟨by rfl, fun W hSw => by (try dsimp only at hSw); go_simp⟩) (by assumption) ?_
      (try simp only [List.setIfInBounds_toArray, List.set_cons_zero, List.set_cons_succ])
      refine takx (i := 9) (D := 61) (v := .agg #[.int .i64 a, .int .i64 b, .int .i64 c, .int .i64 d]) rfl rfl (by kernel_rfl) (by kernel_rfl) (by kernel_rfl) (fun _ _ _ h => h) (Or.inl ⟨by rfl, fun W hSw => by (try dsimp only at hSw); go_simp⟩) (by assumption) ?_
      (try simp only [List.setIfInBounds_toArray, List.set_cons_zero, List.set_cons_succ])
      refine takx (i := 10) (D := 62) (v := .pointer (some ⟨g_p, 5, none⟩)) rfl rfl (by kernel_rfl) (by kernel_rfl) (by kernel_rfl) (fun _ _ _ h => h) (Or.inl ⟨by rfl, fun W hSw => by (try dsimp only at hSw); go_simp⟩) (by assumption) ?_
      (try simp only [List.setIfInBounds_toArray, List.set_cons_zero, List.set_cons_succ])
      refine takx (i := 11) (D := 63) (v := .slice A1 N cp1) rfl rfl (by kernel_rfl) (by kernel_rfl) (by kernel_rfl) (fun _ _ _ h => h) (Or.inl ⟨by rfl, fun W hSw => by (try dsimp only at hSw); go_simp⟩) (by assumption) ?_
      (try simp only [List.setIfInBounds_toArray, List.set_cons_zero, List.set_cons_succ])
      refine takx (i := 12) (D := 64) (v := .int .i64 u) rfl rfl (by kernel_rfl) (by kernel_rfl) (by kernel_rfl) (fun _ _ _ h => h) (Or.inl ⟨by rfl, fun W hSw => by (try dsimp only at hSw); go_simp⟩) (by assumption) ?_
      (try simp only [List.setIfInBounds_toArray, List.set_cons_zero, List.set_cons_succ])
      refine takx (i := 13) (D := 65) (v := .int .i64 v) rfl rfl (by kernel_rfl) (by kernel_rfl) (by kernel_rfl) (fun _ _ _ h => h) (Or.inl ⟨by rfl, fun W hSw => by (try dsimp only at hSw); go_simp⟩) (by assumption) ?_
      (try simp only [List.setIfInBounds_toArray, List.set_cons_zero, List.set_cons_succ])
      refine takx (i := 15) (D := 67) (v := .agg #[.int .i64 a, .int .i64 b, .int .i64 c, .int .i64 d]) rfl rfl (by kernel_rfl) (by kernel_rfl) (by kernel_rfl) (fun _ _ _ h => h) (Or.inl ⟨by rfl, fun W hSw => by (try dsimp only at hSw); go_simp⟩) (by assumption) ?_
      (try simp only [List.setIfInBounds_toArray, List.set_cons_zero, List.set_cons_succ])
      refine takx (i := 16) (D := 68) (v := .slice Z n cp) rfl rfl (by kernel_rfl) (by kernel_rfl) (by kernel_rfl) (fun _ _ _ h => h) (Or.inl ⟨by rfl, fun W hSw => by (try dsimp only at hSw); go_simp⟩) (by assumption) ?_
      (try simp only [List.setIfInBounds_toArray, List.set_cons_zero, List.set_cons_succ])
      refine takx (i := 17) (D := 69) (v := .int .i64 u) rfl rfl (by kernel_rfl) (by kernel_rfl) (by kernel_rfl) (fun _ _ _ h => h) (Or.inl ⟨by rfl, fun W hSw => by (try dsimp only at hSw); go_simp⟩) (by assumption) ?_
      (try simp only [List.setIfInBounds_toArray, List.set_cons_zero, List.set_cons_succ])
      refine takx (i := 18) (D := 70) (v := .int .i64 v) rfl rfl (by kernel_rfl) (by kernel_rfl) (by kernel_rfl) (fun _ _ _ h => h) (Or.inl ⟨by rfl, fun W hSw => by (try dsimp only at hSw); go_simp⟩) (by assumption) ?_
      (try simp only [List.setIfInBounds_toArray, List.set_cons_zero, List.set_cons_succ])
      refine wpAnyH_ready (rs := [14]) (by kernel_rfl) (by simp) ?_
      refine (AllReadyH.cons rfl (fun K hK => ?_) AllReadyH.nil)
      go_simp
      refine ((nrgbaRead_any a b c d N h3 h4 h5 h6 HN.out N cp1 A1 (wrAt (byt N zs) a b c d x y z) u v _ r1).mono (fun e w' h => (⟨h.1.trans (by rw [(byt_self (by rw [wrAt_length, byt_length]) (wrAt_ok (byt_ok _ _))), rd_wr_other HN.out HI.out HJ.out HXY.out]), h.2⟩ : e = Ending.returned (.agg #[.int .i64 (rdAt (byt N zs) a b c d u v).a, .int .i64 (rdAt (byt N zs) a b c d u v).b, .int .i64 (rdAt (byt N zs) a b c d u v).c, .int .i64 (rdAt (byt N zs) a b c d u v).d]) ∧ _))).mono ?_
      rintro e X23 ⟨rfl, bc⟩
      refine hK.out _ _ ⟨ck bc hHeld.1, ck bc hHeld.2.1, ck bc hHeld.2.2.1, ck bc hHeld.2.2.2.1, ck bc hHeld.2.2.2.2.1, ck bc hHeld.2.2.2.2.2.1, ck bc hHeld.2.2.2.2.2.2.1, ck bc hHeld.2.2.2.2.2.2.2.1, ck bc hHeld.2.2.2.2.2.2.2.2.1, ck bc hHeld.2.2.2.2.2.2.2.2.2⟩ (fun hHeld => ?_)
      clear hK K
      (try simp only [List.setIfInBounds_toArray, List.set_cons_zero, List.set_cons_succ])
      replace k_r := bk bc k_r
      replace k_c := bk bc k_c
      replace k_q := bk bc k_q
      replace k_p := bk bc k_p
      replace bw := bst bc bw
      (try replace r1 := (r1.below bc).more bc.size)
      clear bc
      refine wpAnyH_ready (rs := [19]) (by kernel_rfl) (by simp) ?_
      refine (AllReadyH.cons rfl (fun K hK => ?_) AllReadyH.nil)
      go_simp
      refine (nrgbaRead_any a b c d N h3 h4 h5 h6 HN.out n cp Z zs u v _ ((HR.out.below bw).more bw.size)).mono ?_
      rintro e X24 ⟨rfl, bc⟩
      refine hK.out _ _ ⟨ck bc hHeld.1, ck bc hHeld.2.1, ck bc hHeld.2.2.1, ck bc hHeld.2.2.2.1, ck bc hHeld.2.2.2.2.1, ck bc hHeld.2.2.2.2.2.1, ck bc hHeld.2.2.2.2.2.2.1, ck bc hHeld.2.2.2.2.2.2.2.1, ck bc hHeld.2.2.2.2.2.2.2.2.1, ck bc hHeld.2.2.2.2.2.2.2.2.2⟩ (fun hHeld => ?_)
      clear hK K
      (try simp only [List.setIfInBounds_toArray, List.set_cons_zero, List.set_cons_succ])
      replace k_r := bk bc k_r
      replace k_c := bk bc k_c
      replace k_q := bk bc k_q
      replace k_p := bk bc k_p
      replace bw := bst bc bw
      (try replace r1 := (r1.below bc).more bc.size)
      clear bc
      refine takx (i := 20) (D := 72) (v := .bool true) rfl rfl (by kernel_rfl) (by kernel_rfl) (by kernel_rfl) (fun _ _ _ h => h) (Or.inl ⟨by rfl, fun W hSw => by (try dsimp only at hSw); go_simp⟩) (by assumption) ?_
      (try simp only [List.setIfInBounds_toArray, List.set_cons_zero, List.set_cons_succ])
      refine takx (i := 21) (D := 73) (v := .bool true) rfl rfl (by kernel_rfl) (by kernel_rfl) (by kernel_rfl) (fun _ _ _ h => h) (Or.inl ⟨by rfl, fun W hSw => by (try dsimp only at hSw); go_simp⟩) (by assumption) ?_
      (try simp only [List.setIfInBounds_toArray, List.set_cons_zero, List.set_cons_succ])
      refine takx (i := 22) (D := 14) (v := .bool true) rfl rfl (by kernel_rfl) (by kernel_rfl) (by kernel_rfl) (fun _ _ _ h => h) (Or.inl ⟨by rfl, fun W hSw => by (try dsimp only at hSw); go_simp⟩) (by assumption) ?_
      (try simp only [List.setIfInBounds_toArray, List.set_cons_zero, List.set_cons_succ])
      refine wpAnyH_done (by kernel_rfl) ?_ _
      clear hHeld
      go_wp2
      go_ret
      exact ⟨rfl, bw⟩
  have t1 : (x == u) = false := by simpa using hx1
  clear hxy hx1
  go_enter Try.func17, Try.ntmps17
  go_wp2_with fail
  refine (toRect4 a b c d _).mono ?_
  rintro e w1 ⟨rfl, bc⟩
  have bw := bst bc (bsa (bsa (Below.refl _ _)))
  have k_r : w1.heap[w.heap.size]? = some (.cells #[.int .i64 a, .int .i64 b, .int .i64 c, .int .i64 d] 23 (0, 0)) := by have := bk bc (bka (heap_alloc_new w _)); simpa using this
  have k_c : w1.heap[w.heap.size + 1]? = some (.cells #[.int .i64 z.a, .int .i64 z.b, .int .i64 z.c, .int .i64 z.d] 44 (0, 0)) := by have := bk bc (heap_alloc_new (w.alloc (.cells #[.int .i64 a, .int .i64 b, .int .i64 c, .int .i64 d] 23)) _); simpa using this
  clear bc
  go_upto_region 2 with fail
  obtain ⟨Y1, g_q, eY, eg⟩ : ∃ Y g, Y = w1.alloc (.cells #[.int .i64 a, .int .i64 b, .int .i64 c, .int .i64 d] 25) ∧ g = w1.heap.size := ⟨_, _, rfl, rfl⟩
  rw [← eY, ← eg]
  have bc : Below w1.heap.size w1 Y1 := by rw [eY]; exact (Below.refl _ _).alloc (Nat.le_refl _) _
  have k_q : Y1.heap[g_q]? = some (.cells #[.int .i64 a, .int .i64 b, .int .i64 c, .int .i64 d] 25 (0, 0)) := by rw [eY, eg]; exact heap_alloc_new w1 _
  replace k_r := bk bc k_r
  replace k_c := bk bc k_c
  replace bw := bst bc bw
  clear bc eY eg
  have q_r := q4c k_r
  have q_c := q4c k_c
  have q_q := q4c k_q
  go_wp2_with fail
  refine (fine_yes a b c d HF.out _).mono ?_
  rintro e Y2 ⟨rfl, bc⟩
  clear q_r q_c q_q
  replace k_r := bk bc k_r
  replace k_c := bk bc k_c
  replace k_q := bk bc k_q
  replace bw := bst bc bw
  clear bc
  have q_r := q4c k_r
  have q_c := q4c k_c
  have q_q := q4c k_q
  go_wp2_with fail
  refine (has_yes a b c d x y HI.out _).mono ?_
  rintro e Y3 ⟨rfl, bc⟩
  clear q_r q_c q_q
  replace k_r := bk bc k_r
  replace k_c := bk bc k_c
  replace k_q := bk bc k_q
  replace bw := bst bc bw
  clear bc
  have q_r := q4c k_r
  have q_c := q4c k_c
  have q_q := q4c k_q
  go_wp2_with fail
  refine (has_yes a b c d u v HJ.out _).mono ?_
  rintro e Y4 ⟨rfl, bc⟩
  clear q_r q_c q_q
  replace k_r := bk bc k_r
  replace k_c := bk bc k_c
  replace k_q := bk bc k_q
  replace bw := bst bc bw
  clear bc
  go_upto_region 4 with fail
  go_cut [16] (fun s16 wx => ∃ (g_p : Nat) (A1 : Option Addr) (cp1 : Nat), s16 = .pointer (some ⟨g_p, 0, none⟩) ∧ wx.heap[g_p]? = some (.cells #[.int .i64 a, .int .i64 b, .int .i64 c, .int .i64 d, .int .i64 (4 * (c - a)), .slice A1 N cp1] 37 (0, 0)) ∧ wx.heap[w.heap.size]? = some (.cells #[.int .i64 a, .int .i64 b, .int .i64 c, .int .i64 d] 23 (0, 0)) ∧ wx.heap[w.heap.size + 1]? = some (.cells #[.int .i64 z.a, .int .i64 z.b, .int .i64 z.c, .int .i64 z.d] 44 (0, 0)) ∧ wx.heap[g_q]? = some (.cells #[.int .i64 a, .int .i64 b, .int .i64 c, .int .i64 d] 25 (0, 0)) ∧ Hid (Rd wx wx.heap.size A1 N (wrAt (byt N zs) a b c d x y z)) ∧ Hid (Below w.heap.size w wx))
  case first =>
    refine wp_region_held_drew (S := fun w' => w'.cell? ⟨g_q, 0, none⟩ = some (.int .i64 a) ∧ w'.cell? ⟨g_q, 1, none⟩ = some (.int .i64 b) ∧ w'.cell? ⟨g_q, 2, none⟩ = some (.int .i64 c) ∧ w'.cell? ⟨g_q, 3, none⟩ = some (.int .i64 d) ∧ w'.cell? ⟨w.heap.size + 1, 0, none⟩ = some (.int .i64 z.a) ∧ w'.cell? ⟨w.heap.size + 1, 1, none⟩ = some (.int .i64 z.b) ∧ w'.cell? ⟨w.heap.size + 1, 2, none⟩ = some (.int .i64 z.c) ∧ w'.cell? ⟨w.heap.size + 1, 3, none⟩ = some (.int .i64 z.d)) (by kernel_rfl) ⟨(q4c k_q).1.1, (q4c k_q).1.2.1, (q4c k_q).1.2.2.1, (q4c k_q).1.2.2.2, (q4c k_c).1.1, (q4c k_c).1.2.1, (q4c k_c).1.2.2.1, (q4c k_c).1.2.2.2⟩ ?_
    intro hHeld
    obtain ⟨X5, eX, bc⟩ : ∃ X, X = Y4.drew ∧ Below Y4.heap.size Y4 X := ⟨_, rfl, (Below.refl _ _).drew⟩
    rw [← eX] at hHeld ⊢
    replace k_r := bk bc k_r
    replace k_c := bk bc k_c
    replace k_q := bk bc k_q
    replace bw := bst bc bw
    (try replace r1 := (r1.below bc).more bc.size)
    clear eX bc
    refine takx (i := 0) (D := 36) (v := .agg #[.int .i64 a, .int .i64 b, .int .i64 c, .int .i64 d]) rfl rfl (by kernel_rfl) (by kernel_rfl) (by kernel_rfl) (fun _ _ _ h => h) (Or.inl ⟨by rfl, fun W hSw => by (try dsimp only at hSw); go_simp⟩) (by assumption) ?_
    (try simp only [List.setIfInBounds_toArray, List.set_cons_zero, List.set_cons_succ])
    refine takx (i := 1) (D := 37) (v := .slice Z n cp) rfl rfl (by kernel_rfl) (by kernel_rfl) (by kernel_rfl) (fun _ _ _ h => h) (Or.inl ⟨by rfl, fun W hSw => by (try dsimp only at hSw); go_simp⟩) (by assumption) ?_
    (try simp only [List.setIfInBounds_toArray, List.set_cons_zero, List.set_cons_succ])
    refine takx (i := 2) (D := 38) (v := .int .i64 x) rfl rfl (by kernel_rfl) (by kernel_rfl) (by kernel_rfl) (fun _ _ _ h => h) (Or.inl ⟨by rfl, fun W hSw => by (try dsimp only at hSw); go_simp⟩) (by assumption) ?_
    (try simp only [List.setIfInBounds_toArray, List.set_cons_zero, List.set_cons_succ])
    refine takx (i := 3) (D := 39) (v := .int .i64 y) rfl rfl (by kernel_rfl) (by kernel_rfl) (by kernel_rfl) (fun _ _ _ h => h) (Or.inl ⟨by rfl, fun W hSw => by (try dsimp only at hSw); go_simp⟩) (by assumption) ?_
    (try simp only [List.setIfInBounds_toArray, List.set_cons_zero, List.set_cons_succ])
    refine takx (i := 4) (D := 40) (v := .agg #[.int .i64 z.a, .int .i64 z.b, .int .i64 z.c, .int .i64 z.d]) rfl rfl (by kernel_rfl) (by kernel_rfl) (by kernel_rfl) (fun _ _ _ h => h) (Or.inl ⟨by rfl, fun W hSw => by (try dsimp only at hSw); go_simp⟩) (by assumption) ?_
    (try simp only [List.setIfInBounds_toArray, List.set_cons_zero, List.set_cons_succ])
    refine wpAnyH_ready (rs := [5, 7]) (by kernel_rfl) (by simp) ?_
    refine (AllReadyH.cons rfl (fun K hK => ?_) (AllReadyH.cons rfl (fun K hK => ?_) AllReadyH.nil))
    · go_simp
      refine (toColor4 z.a z.b z.c z.d _).mono ?_
      rintro e X6 ⟨rfl, bc⟩
      refine hK.out _ _ ⟨ck bc hHeld.1, ck bc hHeld.2.1, ck bc hHeld.2.2.1, ck bc hHeld.2.2.2.1, ck bc hHeld.2.2.2.2.1, ck bc hHeld.2.2.2.2.2.1, ck bc hHeld.2.2.2.2.2.2.1, ck bc hHeld.2.2.2.2.2.2.2⟩ (fun hHeld => ?_)
      clear hK K
      (try simp only [List.setIfInBounds_toArray, List.set_cons_zero, List.set_cons_succ])
      replace k_r := bk bc k_r
      replace k_c := bk bc k_c
      replace k_q := bk bc k_q
      replace bw := bst bc bw
      (try replace r1 := (r1.below bc).more bc.size)
      clear bc
      refine wpAnyH_ready (rs := [6, 7]) (by kernel_rfl) (by simp) ?_
      refine (AllReadyH.cons rfl (fun K hK => ?_) (AllReadyH.cons rfl (fun K hK => ?_) AllReadyH.nil))
      · go_simp
        refine (nrgbaWrite_any a b c d N h3 h4 h5 h6 HN.out n cp Z (zs) x y z _ ((HR.out.below bw).more bw.size)).mono ?_
        rintro e X7 ⟨A1, cp1, rfl, r1, lo1, bc⟩
        refine hK.out _ _ ⟨ck bc hHeld.1, ck bc hHeld.2.1, ck bc hHeld.2.2.1, ck bc hHeld.2.2.2.1, ck bc hHeld.2.2.2.2.1, ck bc hHeld.2.2.2.2.2.1, ck bc hHeld.2.2.2.2.2.2.1, ck bc hHeld.2.2.2.2.2.2.2⟩ (fun hHeld => ?_)
        clear hK K
        (try simp only [List.setIfInBounds_toArray, List.set_cons_zero, List.set_cons_succ])
        replace k_r := bk bc k_r
        replace k_c := bk bc k_c
        replace k_q := bk bc k_q
        replace bw := bst bc bw
        (try replace r1 := (r1.below bc).more bc.size)
        clear bc
        refine wpAnyH_ready (rs := [7]) (by kernel_rfl) (by simp) ?_
        refine (AllReadyH.cons rfl (fun K hK => ?_) AllReadyH.nil)
        go_simp
        refine hK.out _ _ ⟨cka hHeld.1, cka hHeld.2.1, cka hHeld.2.2.1, cka hHeld.2.2.2.1, cka hHeld.2.2.2.2.1, cka hHeld.2.2.2.2.2.1, cka hHeld.2.2.2.2.2.2.1, cka hHeld.2.2.2.2.2.2.2⟩ (fun hHeld => ?_)
        clear hK K
        (try simp only [List.setIfInBounds_toArray, List.set_cons_zero, List.set_cons_succ])
        obtain ⟨X8, g8, eY, eg⟩ : ∃ Y g, Y = X7.alloc (.cells #[.int .i64 0, .int .i64 0, .int .i64 0, .int .i64 0, .int .i64 0, .slice none 0 0] 37) ∧ g = X7.heap.size := ⟨_, _, rfl, rfl⟩
        rw [← eY, ← eg]
        rw [← eY] at hHeld
        have bc : Below X7.heap.size X7 X8 := by rw [eY]; exact (Below.refl _ _).alloc (Nat.le_refl _) _
        have k_n16 : X8.heap[g8]? = some (.cells #[.int .i64 0, .int .i64 0, .int .i64 0, .int .i64 0, .int .i64 0, .slice none 0 0] 37 (0, 0)) := by rw [eY, eg]; exact heap_alloc_new X7 _
        have lo_n16 : w.heap.size ≤ g8 := by rw [eg]; exact bw.size
        have ne_r_n16 : ¬ w.heap.size = g8 := ne_new k_r eg
        have ne_c_n16 : ¬ w.heap.size + 1 = g8 := ne_new k_c eg
        have ne_q_n16 : ¬ g_q = g8 := ne_new k_q eg
        (try have na_r1 := Rd.ne_new r1 eg)
        replace k_r := bk bc k_r
        replace k_c := bk bc k_c
        replace k_q := bk bc k_q
        replace bw := bst bc bw
        (try replace r1 := (r1.below bc).more bc.size)
        clear bc eY eg
        refine wpAnyH_ready (rs := [8]) (by kernel_rfl) (by simp) ?_
        refine (AllReadyH.cons rfl (fun K hK => ?_) AllReadyH.nil)
        have qq := q6c k_n16
        go_simp
        clear qq
        refine hK.out _ _ ⟨(cks ne_q_n16 (cks ne_q_n16 (cks ne_q_n16 (cks ne_q_n16 (cks ne_q_n16 (cks ne_q_n16 hHeld.1)))))), (cks ne_q_n16 (cks ne_q_n16 (cks ne_q_n16 (cks ne_q_n16 (cks ne_q_n16 (cks ne_q_n16 hHeld.2.1)))))), (cks ne_q_n16 (cks ne_q_n16 (cks ne_q_n16 (cks ne_q_n16 (cks ne_q_n16 (cks ne_q_n16 hHeld.2.2.1)))))), (cks ne_q_n16 (cks ne_q_n16 (cks ne_q_n16 (cks ne_q_n16 (cks ne_q_n16 (cks ne_q_n16 hHeld.2.2.2.1)))))), (cks ne_c_n16 (cks ne_c_n16 (cks ne_c_n16 (cks ne_c_n16 (cks ne_c_n16 (cks ne_c_n16 hHeld.2.2.2.2.1)))))), (cks ne_c_n16 (cks ne_c_n16 (cks ne_c_n16 (cks ne_c_n16 (cks ne_c_n16 (cks ne_c_n16 hHeld.2.2.2.2.2.1)))))), (cks ne_c_n16 (cks ne_c_n16 (cks ne_c_n16 (cks ne_c_n16 (cks ne_c_n16 (cks ne_c_n16 hHeld.2.2.2.2.2.2.1)))))), (cks ne_c_n16 (cks ne_c_n16 (cks ne_c_n16 (cks ne_c_n16 (cks ne_c_n16 (cks ne_c_n16 hHeld.2.2.2.2.2.2.2))))))⟩ (fun hHeld => ?_)
        clear hK K
        (try simp only [List.setIfInBounds_toArray, List.set_cons_zero, List.set_cons_succ])
        obtain ⟨X9, eY⟩ : ∃ Y, Y = ((((((X8.setCell ⟨g8, 0, none⟩ (.int .i64 a)).setCell ⟨g8, 1, none⟩ (.int .i64 b)).setCell ⟨g8, 2, none⟩ (.int .i64 c)).setCell ⟨g8, 3, none⟩ (.int .i64 d)).setCell ⟨g8, 4, none⟩ (.int .i64 (4 * (c - a)))).setCell ⟨g8, 5, none⟩ (.slice A1 N cp1)) := ⟨_, rfl⟩
        rw [← eY] at hHeld ⊢
        replace k_r : X9.heap[w.heap.size]? = some (.cells #[.int .i64 a, .int .i64 b, .int .i64 c, .int .i64 d] 23 (0, 0)) := by rw [eY]; exact (bks ne_r_n16 (bks ne_r_n16 (bks ne_r_n16 (bks ne_r_n16 (bks ne_r_n16 (bks ne_r_n16 k_r))))))
        replace k_c : X9.heap[w.heap.size + 1]? = some (.cells #[.int .i64 z.a, .int .i64 z.b, .int .i64 z.c, .int .i64 z.d] 44 (0, 0)) := by rw [eY]; exact (bks ne_c_n16 (bks ne_c_n16 (bks ne_c_n16 (bks ne_c_n16 (bks ne_c_n16 (bks ne_c_n16 k_c))))))
        replace k_q : X9.heap[g_q]? = some (.cells #[.int .i64 a, .int .i64 b, .int .i64 c, .int .i64 d] 25 (0, 0)) := by rw [eY]; exact (bks ne_q_n16 (bks ne_q_n16 (bks ne_q_n16 (bks ne_q_n16 (bks ne_q_n16 (bks ne_q_n16 k_q))))))
        replace bw : Below w.heap.size w X9 := by rw [eY]; exact (bss lo_n16 (bss lo_n16 (bss lo_n16 (bss lo_n16 (bss lo_n16 (bss lo_n16 bw))))))
        replace k_n16 : X9.heap[g8]? = some (.cells #[.int .i64 a, .int .i64 b, .int .i64 c, .int .i64 d, .int .i64 (4 * (c - a)), .slice A1 N cp1] 37 (0, 0)) := by rw [eY]; exact q6s k_n16
        (try replace r1 := Rd.sized (W := X9) (Rd.sset na_r1 (Rd.sset na_r1 (Rd.sset na_r1 (Rd.sset na_r1 (Rd.sset na_r1 (Rd.sset na_r1 r1)))))) eY)
        clear eY
        refine wpAnyH_done (by kernel_rfl) ?_ _
        go_wp2_with fail
        go_meet
        exact ⟨_, A1, cp1, rfl, k_n16, k_r, k_c, k_q, r1, bw⟩
      · go_simp
        refine hK.out _ _ ⟨cka hHeld.1, cka hHeld.2.1, cka hHeld.2.2.1, cka hHeld.2.2.2.1, cka hHeld.2.2.2.2.1, cka hHeld.2.2.2.2.2.1, cka hHeld.2.2.2.2.2.2.1, cka hHeld.2.2.2.2.2.2.2⟩ (fun hHeld => ?_)
        clear hK K
        (try simp only [List.setIfInBounds_toArray, List.set_cons_zero, List.set_cons_succ])
        obtain ⟨X10, g10, eY, eg⟩ : ∃ Y g, Y = X6.alloc (.cells #[.int .i64 0, .int .i64 0, .int .i64 0, .int .i64 0, .int .i64 0, .slice none 0 0] 37) ∧ g = X6.heap.size := ⟨_, _, rfl, rfl⟩
        rw [← eY, ← eg]
        rw [← eY] at hHeld
        have bc : Below X6.heap.size X6 X10 := by rw [eY]; exact (Below.refl _ _).alloc (Nat.le_refl _) _
        have k_n16 : X10.heap[g10]? = some (.cells #[.int .i64 0, .int .i64 0, .int .i64 0, .int .i64 0, .int .i64 0, .slice none 0 0] 37 (0, 0)) := by rw [eY, eg]; exact heap_alloc_new X6 _
        have lo_n16 : w.heap.size ≤ g10 := by rw [eg]; exact bw.size
        have ne_r_n16 : ¬ w.heap.size = g10 := ne_new k_r eg
        have ne_c_n16 : ¬ w.heap.size + 1 = g10 := ne_new k_c eg
        have ne_q_n16 : ¬ g_q = g10 := ne_new k_q eg
        (try have na_r1 := Rd.ne_new r1 eg)
        replace k_r := bk bc k_r
        replace k_c := bk bc k_c
        replace k_q := bk bc k_q
        replace bw := bst bc bw
        (try replace r1 := (r1.below bc).more bc.size)
        clear bc eY eg
        refine wpAnyH_ready (rs := [6]) (by kernel_rfl) (by simp) ?_
        refine (AllReadyH.cons rfl (fun K hK => ?_) AllReadyH.nil)
        go_simp
        refine (nrgbaWrite_any a b c d N h3 h4 h5 h6 HN.out n cp Z (zs) x y z _ ((HR.out.below bw).more bw.size)).mono ?_
        rintro e X11 ⟨A1, cp1, rfl, r1, lo1, bc⟩
        refine hK.out _ _ ⟨ck bc hHeld.1, ck bc hHeld.2.1, ck bc hHeld.2.2.1, ck bc hHeld.2.2.2.1, ck bc hHeld.2.2.2.2.1, ck bc hHeld.2.2.2.2.2.1, ck bc hHeld.2.2.2.2.2.2.1, ck bc hHeld.2.2.2.2.2.2.2⟩ (fun hHeld => ?_)
        clear hK K
        (try simp only [List.setIfInBounds_toArray, List.set_cons_zero, List.set_cons_succ])
        have na_r1 := lo_ne (n := N) lo1 k_n16
        replace k_r := bk bc k_r
        replace k_c := bk bc k_c
        replace k_q := bk bc k_q
        replace k_n16 := bk bc k_n16
        replace bw := bst bc bw
        (try replace r1 := (r1.below bc).more bc.size)
        clear bc
        refine wpAnyH_ready (rs := [8]) (by kernel_rfl) (by simp) ?_
        refine (AllReadyH.cons rfl (fun K hK => ?_) AllReadyH.nil)
        have qq := q6c k_n16
        go_simp
        clear qq
        refine hK.out _ _ ⟨(cks ne_q_n16 (cks ne_q_n16 (cks ne_q_n16 (cks ne_q_n16 (cks ne_q_n16 (cks ne_q_n16 hHeld.1)))))), (cks ne_q_n16 (cks ne_q_n16 (cks ne_q_n16 (cks ne_q_n16 (cks ne_q_n16 (cks ne_q_n16 hHeld.2.1)))))), (cks ne_q_n16 (cks ne_q_n16 (cks ne_q_n16 (cks ne_q_n16 (cks ne_q_n16 (cks ne_q_n16 hHeld.2.2.1)))))), (cks ne_q_n16 (cks ne_q_n16 (cks ne_q_n16 (cks ne_q_n16 (cks ne_q_n16 (cks ne_q_n16 hHeld.2.2.2.1)))))), (cks ne_c_n16 (cks ne_c_n16 (cks ne_c_n16 (cks ne_c_n16 (cks ne_c_n16 (cks ne_c_n16 hHeld.2.2.2.2.1)))))), (cks ne_c_n16 (cks ne_c_n16 (cks ne_c_n16 (cks ne_c_n16 (cks ne_c_n16 (cks ne_c_n16 hHeld.2.2.2.2.2.1)))))), (cks ne_c_n16 (cks ne_c_n16 (cks ne_c_n16 (cks ne_c_n16 (cks ne_c_n16 (cks ne_c_n16 hHeld.2.2.2.2.2.2.1)))))), (cks ne_c_n16 (cks ne_c_n16 (cks ne_c_n16 (cks ne_c_n16 (cks ne_c_n16 (cks ne_c_n16 hHeld.2.2.2.2.2.2.2))))))⟩ (fun hHeld => ?_)
        clear hK K
        (try simp only [List.setIfInBounds_toArray, List.set_cons_zero, List.set_cons_succ])
        obtain ⟨X12, eY⟩ : ∃ Y, Y = ((((((X11.setCell ⟨g10, 0, none⟩ (.int .i64 a)).setCell ⟨g10, 1, none⟩ (.int .i64 b)).setCell ⟨g10, 2, none⟩ (.int .i64 c)).setCell ⟨g10, 3, none⟩ (.int .i64 d)).setCell ⟨g10, 4, none⟩ (.int .i64 (4 * (c - a)))).setCell ⟨g10, 5, none⟩ (.slice A1 N cp1)) := ⟨_, rfl⟩
        rw [← eY] at hHeld ⊢
        replace k_r : X12.heap[w.heap.size]? = some (.cells #[.int .i64 a, .int .i64 b, .int .i64 c, .int .i64 d] 23 (0, 0)) := by rw [eY]; exact (bks ne_r_n16 (bks ne_r_n16 (bks ne_r_n16 (bks ne_r_n16 (bks ne_r_n16 (bks ne_r_n16 k_r))))))
        replace k_c : X12.heap[w.heap.size + 1]? = some (.cells #[.int .i64 z.a, .int .i64 z.b, .int .i64 z.c, .int .i64 z.d] 44 (0, 0)) := by rw [eY]; exact (bks ne_c_n16 (bks ne_c_n16 (bks ne_c_n16 (bks ne_c_n16 (bks ne_c_n16 (bks ne_c_n16 k_c))))))
        replace k_q : X12.heap[g_q]? = some (.cells #[.int .i64 a, .int .i64 b, .int .i64 c, .int .i64 d] 25 (0, 0)) := by rw [eY]; exact (bks ne_q_n16 (bks ne_q_n16 (bks ne_q_n16 (bks ne_q_n16 (bks ne_q_n16 (bks ne_q_n16 k_q))))))
        replace bw : Below w.heap.size w X12 := by rw [eY]; exact (bss lo_n16 (bss lo_n16 (bss lo_n16 (bss lo_n16 (bss lo_n16 (bss lo_n16 bw))))))
        replace k_n16 : X12.heap[g10]? = some (.cells #[.int .i64 a, .int .i64 b, .int .i64 c, .int .i64 d, .int .i64 (4 * (c - a)), .slice A1 N cp1] 37 (0, 0)) := by rw [eY]; exact q6s k_n16
        (try replace r1 := Rd.sized (W := X12) (Rd.sset na_r1 (Rd.sset na_r1 (Rd.sset na_r1 (Rd.sset na_r1 (Rd.sset na_r1 (Rd.sset na_r1 r1)))))) eY)
        clear eY
        refine wpAnyH_done (by kernel_rfl) ?_ _
        go_wp2_with fail
        go_meet
        exact ⟨_, A1, cp1, rfl, k_n16, k_r, k_c, k_q, r1, bw⟩
    · go_simp
      refine hK.out _ _ ⟨cka hHeld.1, cka hHeld.2.1, cka hHeld.2.2.1, cka hHeld.2.2.2.1, cka hHeld.2.2.2.2.1, cka hHeld.2.2.2.2.2.1, cka hHeld.2.2.2.2.2.2.1, cka hHeld.2.2.2.2.2.2.2⟩ (fun hHeld => ?_)
      clear hK K
      (try simp only [List.setIfInBounds_toArray, List.set_cons_zero, List.set_cons_succ])
      obtain ⟨X13, g13, eY, eg⟩ : ∃ Y g, Y = X5.alloc (.cells #[.int .i64 0, .int .i64 0, .int .i64 0, .int .i64 0, .int .i64 0, .slice none 0 0] 37) ∧ g = X5.heap.size := ⟨_, _, rfl, rfl⟩
      rw [← eY, ← eg]
      rw [← eY] at hHeld
      have bc : Below X5.heap.size X5 X13 := by rw [eY]; exact (Below.refl _ _).alloc (Nat.le_refl _) _
      have k_n16 : X13.heap[g13]? = some (.cells #[.int .i64 0, .int .i64 0, .int .i64 0, .int .i64 0, .int .i64 0, .slice none 0 0] 37 (0, 0)) := by rw [eY, eg]; exact heap_alloc_new X5 _
      have lo_n16 : w.heap.size ≤ g13 := by rw [eg]; exact bw.size
      have ne_r_n16 : ¬ w.heap.size = g13 := ne_new k_r eg
      have ne_c_n16 : ¬ w.heap.size + 1 = g13 := ne_new k_c eg
      have ne_q_n16 : ¬ g_q = g13 := ne_new k_q eg
      (try have na_r1 := Rd.ne_new r1 eg)
      replace k_r := bk bc k_r
      replace k_c := bk bc k_c
      replace k_q := bk bc k_q
      replace bw := bst bc bw
      (try replace r1 := (r1.below bc).more bc.size)
      clear bc eY eg
      refine wpAnyH_ready (rs := [5]) (by kernel_rfl) (by simp) ?_
      refine (AllReadyH.cons rfl (fun K hK => ?_) AllReadyH.nil)
      go_simp
      refine (toColor4 z.a z.b z.c z.d _).mono ?_
      rintro e X14 ⟨rfl, bc⟩
      refine hK.out _ _ ⟨ck bc hHeld.1, ck bc hHeld.2.1, ck bc hHeld.2.2.1, ck bc hHeld.2.2.2.1, ck bc hHeld.2.2.2.2.1, ck bc hHeld.2.2.2.2.2.1, ck bc hHeld.2.2.2.2.2.2.1, ck bc hHeld.2.2.2.2.2.2.2⟩ (fun hHeld => ?_)
      clear hK K
      (try simp only [List.setIfInBounds_toArray, List.set_cons_zero, List.set_cons_succ])
      replace k_r := bk bc k_r
      replace k_c := bk bc k_c
      replace k_q := bk bc k_q
      replace k_n16 := bk bc k_n16
      replace bw := bst bc bw
      (try replace r1 := (r1.below bc).more bc.size)
      clear bc
      refine wpAnyH_ready (rs := [6]) (by kernel_rfl) (by simp) ?_
      refine (AllReadyH.cons rfl (fun K hK => ?_) AllReadyH.nil)
      go_simp
      refine (nrgbaWrite_any a b c d N h3 h4 h5 h6 HN.out n cp Z (zs) x y z _ ((HR.out.below bw).more bw.size)).mono ?_
      rintro e X15 ⟨A1, cp1, rfl, r1, lo1, bc⟩
      refine hK.out _ _ ⟨ck bc hHeld.1, ck bc hHeld.2.1, ck bc hHeld.2.2.1, ck bc hHeld.2.2.2.1, ck bc hHeld.2.2.2.2.1, ck bc hHeld.2.2.2.2.2.1, ck bc hHeld.2.2.2.2.2.2.1, ck bc hHeld.2.2.2.2.2.2.2⟩ (fun hHeld => ?_)
      clear hK K
      (try simp only [List.setIfInBounds_toArray, List.set_cons_zero, List.set_cons_succ])
      have na_r1 := lo_ne (n := N) lo1 k_n16
      replace k_r := bk bc k_r
      replace k_c := bk bc k_c
      replace k_q := bk bc k_q
      replace k_n16 := bk bc k_n16
      replace bw := bst bc bw
      (try replace r1 := (r1.below bc).more bc.size)
      clear bc
      refine wpAnyH_ready (rs := [8]) (by kernel_rfl) (by simp) ?_
      refine (AllReadyH.cons rfl (fun K hK => ?_) AllReadyH.nil)
      have qq := q6c k_n16
      go_simp
      clear qq
      refine hK.out _ _ ⟨(cks ne_q_n16 (cks ne_q_n16 (cks ne_q_n16 (cks ne_q_n16 (cks ne_q_n16 (cks ne_q_n16 hHeld.1)))))), (cks ne_q_n16 (cks ne_q_n16 (cks ne_q_n16 (cks ne_q_n16 (cks ne_q_n16 (cks ne_q_n16 hHeld.2.1)))))), (cks ne_q_n16 (cks ne_q_n16 (cks ne_q_n16 (cks ne_q_n16 (cks ne_q_n16 (cks ne_q_n16 hHeld.2.2.1)))))), (cks ne_q_n16 (cks ne_q_n16 (cks ne_q_n16 (cks ne_q_n16 (cks ne_q_n16 (cks ne_q_n16 hHeld.2.2.2.1)))))), (cks ne_c_n16 (cks ne_c_n16 (cks ne_c_n16 (cks ne_c_n16 (cks ne_c_n16 (cks ne_c_n16 hHeld.2.2.2.2.1)))))), (cks ne_c_n16 (cks ne_c_n16 (cks ne_c_n16 (cks ne_c_n16 (cks ne_c_n16 (cks ne_c_n16 hHeld.2.2.2.2.2.1)))))), (cks ne_c_n16 (cks ne_c_n16 (cks ne_c_n16 (cks ne_c_n16 (cks ne_c_n16 (cks ne_c_n16 hHeld.2.2.2.2.2.2.1)))))), (cks ne_c_n16 (cks ne_c_n16 (cks ne_c_n16 (cks ne_c_n16 (cks ne_c_n16 (cks ne_c_n16 hHeld.2.2.2.2.2.2.2))))))⟩ (fun hHeld => ?_)
      clear hK K
      (try simp only [List.setIfInBounds_toArray, List.set_cons_zero, List.set_cons_succ])
      obtain ⟨X16, eY⟩ : ∃ Y, Y = ((((((X15.setCell ⟨g13, 0, none⟩ (.int .i64 a)).setCell ⟨g13, 1, none⟩ (.int .i64 b)).setCell ⟨g13, 2, none⟩ (.int .i64 c)).setCell ⟨g13, 3, none⟩ (.int .i64 d)).setCell ⟨g13, 4, none⟩ (.int .i64 (4 * (c - a)))).setCell ⟨g13, 5, none⟩ (.slice A1 N cp1)) := ⟨_, rfl⟩
      rw [← eY] at hHeld ⊢
      replace k_r : X16.heap[w.heap.size]? = some (.cells #[.int .i64 a, .int .i64 b, .int .i64 c, .int .i64 d] 23 (0, 0)) := by rw [eY]; exact (bks ne_r_n16 (bks ne_r_n16 (bks ne_r_n16 (bks ne_r_n16 (bks ne_r_n16 (bks ne_r_n16 k_r))))))
      replace k_c : X16.heap[w.heap.size + 1]? = some (.cells #[.int .i64 z.a, .int .i64 z.b, .int .i64 z.c, .int .i64 z.d] 44 (0, 0)) := by rw [eY]; exact (bks ne_c_n16 (bks ne_c_n16 (bks ne_c_n16 (bks ne_c_n16 (bks ne_c_n16 (bks ne_c_n16 k_c))))))
      replace k_q : X16.heap[g_q]? = some (.cells #[.int .i64 a, .int .i64 b, .int .i64 c, .int .i64 d] 25 (0, 0)) := by rw [eY]; exact (bks ne_q_n16 (bks ne_q_n16 (bks ne_q_n16 (bks ne_q_n16 (bks ne_q_n16 (bks ne_q_n16 k_q))))))
      replace bw : Below w.heap.size w X16 := by rw [eY]; exact (bss lo_n16 (bss lo_n16 (bss lo_n16 (bss lo_n16 (bss lo_n16 (bss lo_n16 bw))))))
      replace k_n16 : X16.heap[g13]? = some (.cells #[.int .i64 a, .int .i64 b, .int .i64 c, .int .i64 d, .int .i64 (4 * (c - a)), .slice A1 N cp1] 37 (0, 0)) := by rw [eY]; exact q6s k_n16
      (try replace r1 := Rd.sized (W := X16) (Rd.sset na_r1 (Rd.sset na_r1 (Rd.sset na_r1 (Rd.sset na_r1 (Rd.sset na_r1 (Rd.sset na_r1 r1)))))) eY)
      clear eY
      refine wpAnyH_done (by kernel_rfl) ?_ _
      go_wp2_with fail
      go_meet
      exact ⟨_, A1, cp1, rfl, k_n16, k_r, k_c, k_q, r1, bw⟩
  case rest =>
    clear k_r k_c k_q bw
    obtain ⟨g_p, A1, cp1, rfl, k_p, k_r, k_c, k_q, R1, BW⟩ := hcut
    have bw := BW.out
    clear BW
    have r1 := R1.out
    clear R1
    go_upto_region 5 with fail
    refine wp_region_held_drew (S := fun w' => w'.cell? ⟨g_q, 0, none⟩ = some (.int .i64 a) ∧ w'.cell? ⟨g_q, 1, none⟩ = some (.int .i64 b) ∧ w'.cell? ⟨g_q, 2, none⟩ = some (.int .i64 c) ∧ w'.cell? ⟨g_q, 3, none⟩ = some (.int .i64 d) ∧ w'.cell? ⟨g_p, 0, none⟩ = some (.int .i64 a) ∧ w'.cell? ⟨g_p, 1, none⟩ = some (.int .i64 b) ∧ w'.cell? ⟨g_p, 2, none⟩ = some (.int .i64 c) ∧ w'.cell? ⟨g_p, 3, none⟩ = some (.int .i64 d) ∧ w'.cell? ⟨g_p, 4, none⟩ = some (.int .i64 (4 * (c - a))) ∧ w'.cell? ⟨g_p, 5, none⟩ = some (.slice A1 N cp1) ∧ w'.cell? ⟨w.heap.size + 1, 0, none⟩ = some (.int .i64 z.a) ∧ w'.cell? ⟨w.heap.size + 1, 1, none⟩ = some (.int .i64 z.b) ∧ w'.cell? ⟨w.heap.size + 1, 2, none⟩ = some (.int .i64 z.c) ∧ w'.cell? ⟨w.heap.size + 1, 3, none⟩ = some (.int .i64 z.d)) (by kernel_rfl) ⟨(q4c k_q).1.1, (q4c k_q).1.2.1, (q4c k_q).1.2.2.1, (q4c k_q).1.2.2.2, (q6c k_p).1.1, (q6c k_p).1.2.1, (q6c k_p).1.2.2.1, (q6c k_p).1.2.2.2.1, (q6c k_p).1.2.2.2.2.1, (q6c k_p).1.2.2.2.2.2, (q4c k_c).1.1, (q4c k_c).1.2.1, (q4c k_c).1.2.2.1, (q4c k_c).1.2.2.2⟩ ?_
    intro hHeld
    obtain ⟨X18, eX, bc⟩ : ∃ X, X = wc.drew ∧ Below wc.heap.size wc X := ⟨_, rfl, (Below.refl _ _).drew⟩
    rw [← eX] at hHeld ⊢
    replace k_r := bk bc k_r
    replace k_c := bk bc k_c
    replace k_q := bk bc k_q
    replace k_p := bk bc k_p
    replace bw := bst bc bw
    (try replace r1 := (r1.below bc).more bc.size)
    clear eX bc
    refine takx (i := 0) (D := 43) (v := .agg #[.int .i64 a, .int .i64 b, .int .i64 c, .int .i64 d]) rfl rfl (by kernel_rfl) (by kernel_rfl) (by kernel_rfl) (fun _ _ _ h => h) (Or.inl ⟨by rfl, fun W hSw => by (try dsimp only at hSw); go_simp⟩) (by assumption) ?_
    (try simp only [List.setIfInBounds_toArray, List.set_cons_zero, List.set_cons_succ])
    refine takx (i := 1) (D := 44) (v := .pointer (some ⟨g_p, 5, none⟩)) rfl rfl (by kernel_rfl) (by kernel_rfl) (by kernel_rfl) (fun _ _ _ h => h) (Or.inl ⟨by rfl, fun W hSw => by (try dsimp only at hSw); go_simp⟩) (by assumption) ?_
    (try simp only [List.setIfInBounds_toArray, List.set_cons_zero, List.set_cons_succ])
    refine takx (i := 2) (D := 45) (v := .slice A1 N cp1) rfl rfl (by kernel_rfl) (by kernel_rfl) (by kernel_rfl) (fun _ _ _ h => h) (Or.inl ⟨by rfl, fun W hSw => by (try dsimp only at hSw); go_simp⟩) (by assumption) ?_
    (try simp only [List.setIfInBounds_toArray, List.set_cons_zero, List.set_cons_succ])
    refine takx (i := 3) (D := 46) (v := .int .i64 x) rfl rfl (by kernel_rfl) (by kernel_rfl) (by kernel_rfl) (fun _ _ _ h => h) (Or.inl ⟨by rfl, fun W hSw => by (try dsimp only at hSw); go_simp⟩) (by assumption) ?_
    (try simp only [List.setIfInBounds_toArray, List.set_cons_zero, List.set_cons_succ])
    refine takx (i := 4) (D := 47) (v := .int .i64 y) rfl rfl (by kernel_rfl) (by kernel_rfl) (by kernel_rfl) (fun _ _ _ h => h) (Or.inl ⟨by rfl, fun W hSw => by (try dsimp only at hSw); go_simp⟩) (by assumption) ?_
    (try simp only [List.setIfInBounds_toArray, List.set_cons_zero, List.set_cons_succ])
    refine takx (i := 6) (D := 49) (v := .agg #[.int .i64 z.a, .int .i64 z.b, .int .i64 z.c, .int .i64 z.d]) rfl rfl (by kernel_rfl) (by kernel_rfl) (by kernel_rfl) (fun _ _ _ h => h) (Or.inl ⟨by rfl, fun W hSw => by (try dsimp only at hSw); go_simp⟩) (by assumption) ?_
    (try simp only [List.setIfInBounds_toArray, List.set_cons_zero, List.set_cons_succ])
    refine wpAnyH_ready (rs := [5]) (by kernel_rfl) (by simp) ?_
    refine (AllReadyH.cons rfl (fun K hK => ?_) AllReadyH.nil)
    go_simp
    refine ((nrgbaRead_any a b c d N h3 h4 h5 h6 HN.out N cp1 A1 (wrAt (byt N zs) a b c d x y z) x y _ r1).mono (fun e w' h => (⟨h.1.trans (by rw [(byt_self (by rw [wrAt_length, byt_length]) (wrAt_ok (byt_ok _ _))), rd_wr_same HN.out (byt_length _ _) HI.out]), h.2⟩ : e = Ending.returned (.agg #[.int .i64 (low4 z).a, .int .i64 (low4 z).b, .int .i64 (low4 z).c, .int .i64 (low4 z).d]) ∧ _))).mono ?_
    rintro e X19 ⟨rfl, bc⟩
    refine hK.out _ _ ⟨ck bc hHeld.1, ck bc hHeld.2.1, ck bc hHeld.2.2.1, ck bc hHeld.2.2.2.1, ck bc hHeld.2.2.2.2.1, ck bc hHeld.2.2.2.2.2.1, ck bc hHeld.2.2.2.2.2.2.1, ck bc hHeld.2.2.2.2.2.2.2.1, ck bc hHeld.2.2.2.2.2.2.2.2.1, ck bc hHeld.2.2.2.2.2.2.2.2.2.1, ck bc hHeld.2.2.2.2.2.2.2.2.2.2.1, ck bc hHeld.2.2.2.2.2.2.2.2.2.2.2.1, ck bc hHeld.2.2.2.2.2.2.2.2.2.2.2.2.1, ck bc hHeld.2.2.2.2.2.2.2.2.2.2.2.2.2⟩ (fun hHeld => ?_)
    clear hK K
    (try simp only [List.setIfInBounds_toArray, List.set_cons_zero, List.set_cons_succ])
    replace k_r := bk bc k_r
    replace k_c := bk bc k_c
    replace k_q := bk bc k_q
    replace k_p := bk bc k_p
    replace bw := bst bc bw
    (try replace r1 := (r1.below bc).more bc.size)
    clear bc
    refine wpAnyH_ready (rs := [7]) (by kernel_rfl) (by simp) ?_
    refine (AllReadyH.cons rfl (fun K hK => ?_) AllReadyH.nil)
    go_simp
    refine (lowColor4 z Hz.out _).mono ?_
    rintro e X20 ⟨rfl, bc⟩
    refine hK.out _ _ ⟨ck bc hHeld.1, ck bc hHeld.2.1, ck bc hHeld.2.2.1, ck bc hHeld.2.2.2.1, ck bc hHeld.2.2.2.2.1, ck bc hHeld.2.2.2.2.2.1, ck bc hHeld.2.2.2.2.2.2.1, ck bc hHeld.2.2.2.2.2.2.2.1, ck bc hHeld.2.2.2.2.2.2.2.2.1, ck bc hHeld.2.2.2.2.2.2.2.2.2.1, ck bc hHeld.2.2.2.2.2.2.2.2.2.2.1, ck bc hHeld.2.2.2.2.2.2.2.2.2.2.2.1, ck bc hHeld.2.2.2.2.2.2.2.2.2.2.2.2.1, ck bc hHeld.2.2.2.2.2.2.2.2.2.2.2.2.2⟩ (fun hHeld => ?_)
    clear hK K
    (try simp only [List.setIfInBounds_toArray, List.set_cons_zero, List.set_cons_succ])
    replace k_r := bk bc k_r
    replace k_c := bk bc k_c
    replace k_q := bk bc k_q
    replace k_p := bk bc k_p
    replace bw := bst bc bw
    (try replace r1 := (r1.below bc).more bc.size)
    clear bc
    refine takx (i := 8) (D := 51) (v := .bool false) rfl rfl (by kernel_rfl) (by kernel_rfl) (by kernel_rfl) (fun _ _ _ h => h) (Or.inl ⟨by rfl, fun W hSw => by (try dsimp only at hSw); go_simp⟩) (by assumption) ?_
    (try simp only [List.setIfInBounds_toArray, List.set_cons_zero, List.set_cons_succ])
    refine wpAnyH_done (by kernel_rfl) ?_ _
    clear hHeld
    go_upto_region 7 with fail
    refine wp_region_held_drew (S := fun w' => w'.cell? ⟨g_q, 0, none⟩ = some (.int .i64 a) ∧ w'.cell? ⟨g_q, 1, none⟩ = some (.int .i64 b) ∧ w'.cell? ⟨g_q, 2, none⟩ = some (.int .i64 c) ∧ w'.cell? ⟨g_q, 3, none⟩ = some (.int .i64 d) ∧ w'.cell? ⟨g_p, 0, none⟩ = some (.int .i64 a) ∧ w'.cell? ⟨g_p, 1, none⟩ = some (.int .i64 b) ∧ w'.cell? ⟨g_p, 2, none⟩ = some (.int .i64 c) ∧ w'.cell? ⟨g_p, 3, none⟩ = some (.int .i64 d) ∧ w'.cell? ⟨g_p, 4, none⟩ = some (.int .i64 (4 * (c - a))) ∧ w'.cell? ⟨g_p, 5, none⟩ = some (.slice A1 N cp1)) (by kernel_rfl) ⟨(q4c k_q).1.1, (q4c k_q).1.2.1, (q4c k_q).1.2.2.1, (q4c k_q).1.2.2.2, (q6c k_p).1.1, (q6c k_p).1.2.1, (q6c k_p).1.2.2.1, (q6c k_p).1.2.2.2.1, (q6c k_p).1.2.2.2.2.1, (q6c k_p).1.2.2.2.2.2⟩ ?_
    intro hHeld
    obtain ⟨X22, eX, bc⟩ : ∃ X, X = X20.drew ∧ Below X20.heap.size X20 X := ⟨_, rfl, (Below.refl _ _).drew⟩
    rw [← eX] at hHeld ⊢
    replace k_r := bk bc k_r
    replace k_c := bk bc k_c
    replace k_q := bk bc k_q
    replace k_p := bk bc k_p
    replace bw := bst bc bw
    (try replace r1 := (r1.below bc).more bc.size)
    clear eX bc
    refine takx (i := 0) (D := 52) (v := .int .i64 x) rfl rfl (by kernel_rfl) (by kernel_rfl) (by kernel_rfl) (fun _ _ _ h => h) (Or.inl ⟨by rfl, fun W hSw => by (try dsimp only at hSw); go_simp⟩) (by assumption) ?_
    (try simp only [List.setIfInBounds_toArray, List.set_cons_zero, List.set_cons_succ])
    refine takx (i := 1) (D := 53) (v := .int .i64 u) rfl rfl (by kernel_rfl) (by kernel_rfl) (by kernel_rfl) (fun _ _ _ h => h) (Or.inl ⟨by rfl, fun W hSw => by (try dsimp only at hSw); go_simp⟩) (by assumption) ?_
    (try simp only [List.setIfInBounds_toArray, List.set_cons_zero, List.set_cons_succ])
    refine takx (i := 2) (D := 54) (v := .bool false) rfl rfl (by kernel_rfl) (by kernel_rfl) (by kernel_rfl) (fun _ _ _ h => h) (Or.inl ⟨by rfl, fun W hSw => by (try dsimp only at hSw); go_simp⟩) (by assumption) ?_
    (try simp only [List.setIfInBounds_toArray, List.set_cons_zero, List.set_cons_succ])
    refine takx (i := 3) (D := 55) (v := .bool false) rfl rfl (by kernel_rfl) (by kernel_rfl) (by kernel_rfl) (fun _ _ _ h => h) (Or.inl ⟨by rfl, fun W hSw => by (try dsimp only at hSw); go_simp⟩) (by assumption) ?_
    (try simp only [List.setIfInBounds_toArray, List.set_cons_zero, List.set_cons_succ])
    refine takx (i := 4) (D := 56) (v := undef) rfl rfl (by kernel_rfl) (by kernel_rfl) (by kernel_rfl) (fun _ _ _ h => h) (Or.inr ⟨by rfl, rfl⟩) (by assumption) ?_
    (try simp only [List.setIfInBounds_toArray, List.set_cons_zero, List.set_cons_succ])
    refine takx (i := 5) (D := 57) (v := undef) rfl rfl (by kernel_rfl) (by kernel_rfl) (by kernel_rfl) (fun _ _ _ h => h) (Or.inr ⟨by rfl, rfl⟩) (by assumption) ?_
    (try simp only [List.setIfInBounds_toArray, List.set_cons_zero, List.set_cons_succ])
    refine takx (i := 6) (D := 58) (v := undef) rfl rfl (by kernel_rfl) (by kernel_rfl) (by kernel_rfl) (fun _ _ _ h => h) (Or.inr ⟨by rfl, rfl⟩) (by assumption) ?_
    (try simp only [List.setIfInBounds_toArray, List.set_cons_zero, List.set_cons_succ])
    refine takx (i := 7) (D := 59) (v := .bool false) rfl rfl (by kernel_rfl) (by kernel_rfl) (by kernel_rfl) (fun _ _ _ h => h) (Or.inl ⟨by rfl, fun W hSw => by (try dsimp only at hSw); go_simp⟩) (by assumption) ?_
    (try simp only [List.setIfInBounds_toArray, List.set_cons_zero, List.set_cons_succ])
    refine takx (i := 8) (D := 60) (v := .bool false) rfl rfl (by kernel_rfl) (by kernel_rfl) (by kernel_rfl) (fun _ _ _ h => h) (Or.inl ⟨by rfl, fun W hSw => by (try dsimp only at hSw); go_simp⟩) (by assumption) ?_
    (try simp only [List.setIfInBounds_toArray, List.set_cons_zero, List.set_cons_succ])
    refine takx (i := 9) (D := 61) (v := .agg #[.int .i64 a, .int .i64 b, .int .i64 c, .int .i64 d]) rfl rfl (by kernel_rfl) (by kernel_rfl) (by kernel_rfl) (fun _ _ _ h => h) (Or.inl ⟨by rfl, fun W hSw => by (try dsimp only at hSw); go_simp⟩) (by assumption) ?_
    (try simp only [List.setIfInBounds_toArray, List.set_cons_zero, List.set_cons_succ])
    refine takx (i := 10) (D := 62) (v := .pointer (some ⟨g_p, 5, none⟩)) rfl rfl (by kernel_rfl) (by kernel_rfl) (by kernel_rfl) (fun _ _ _ h => h) (Or.inl ⟨by rfl, fun W hSw => by (try dsimp only at hSw); go_simp⟩) (by assumption) ?_
    (try simp only [List.setIfInBounds_toArray, List.set_cons_zero, List.set_cons_succ])
    refine takx (i := 11) (D := 63) (v := .slice A1 N cp1) rfl rfl (by kernel_rfl) (by kernel_rfl) (by kernel_rfl) (fun _ _ _ h => h) (Or.inl ⟨by rfl, fun W hSw => by (try dsimp only at hSw); go_simp⟩) (by assumption) ?_
    (try simp only [List.setIfInBounds_toArray, List.set_cons_zero, List.set_cons_succ])
    refine takx (i := 12) (D := 64) (v := .int .i64 u) rfl rfl (by kernel_rfl) (by kernel_rfl) (by kernel_rfl) (fun _ _ _ h => h) (Or.inl ⟨by rfl, fun W hSw => by (try dsimp only at hSw); go_simp⟩) (by assumption) ?_
    (try simp only [List.setIfInBounds_toArray, List.set_cons_zero, List.set_cons_succ])
    refine takx (i := 13) (D := 65) (v := .int .i64 v) rfl rfl (by kernel_rfl) (by kernel_rfl) (by kernel_rfl) (fun _ _ _ h => h) (Or.inl ⟨by rfl, fun W hSw => by (try dsimp only at hSw); go_simp⟩) (by assumption) ?_
    (try simp only [List.setIfInBounds_toArray, List.set_cons_zero, List.set_cons_succ])
    refine takx (i := 15) (D := 67) (v := .agg #[.int .i64 a, .int .i64 b, .int .i64 c, .int .i64 d]) rfl rfl (by kernel_rfl) (by kernel_rfl) (by kernel_rfl) (fun _ _ _ h => h) (Or.inl ⟨by rfl, fun W hSw => by (try dsimp only at hSw); go_simp⟩) (by assumption) ?_
    (try simp only [List.setIfInBounds_toArray, List.set_cons_zero, List.set_cons_succ])
    refine takx (i := 16) (D := 68) (v := .slice Z n cp) rfl rfl (by kernel_rfl) (by kernel_rfl) (by kernel_rfl) (fun _ _ _ h => h) (Or.inl ⟨by rfl, fun W hSw => by (try dsimp only at hSw); go_simp⟩) (by assumption) ?_
    (try simp only [List.setIfInBounds_toArray, List.set_cons_zero, List.set_cons_succ])
    refine takx (i := 17) (D := 69) (v := .int .i64 u) rfl rfl (by kernel_rfl) (by kernel_rfl) (by kernel_rfl) (fun _ _ _ h => h) (Or.inl ⟨by rfl, fun W hSw => by (try dsimp only at hSw); go_simp⟩) (by assumption) ?_
    (try simp only [List.setIfInBounds_toArray, List.set_cons_zero, List.set_cons_succ])
    refine takx (i := 18) (D := 70) (v := .int .i64 v) rfl rfl (by kernel_rfl) (by kernel_rfl) (by kernel_rfl) (fun _ _ _ h => h) (Or.inl ⟨by rfl, fun W hSw => by (try dsimp only at hSw); go_simp⟩) (by assumption) ?_
    (try simp only [List.setIfInBounds_toArray, List.set_cons_zero, List.set_cons_succ])
    refine wpAnyH_ready (rs := [14]) (by kernel_rfl) (by simp) ?_
    refine (AllReadyH.cons rfl (fun K hK => ?_) AllReadyH.nil)
    go_simp
    refine ((nrgbaRead_any a b c d N h3 h4 h5 h6 HN.out N cp1 A1 (wrAt (byt N zs) a b c d x y z) u v _ r1).mono (fun e w' h => (⟨h.1.trans (by rw [(byt_self (by rw [wrAt_length, byt_length]) (wrAt_ok (byt_ok _ _))), rd_wr_other HN.out HI.out HJ.out HXY.out]), h.2⟩ : e = Ending.returned (.agg #[.int .i64 (rdAt (byt N zs) a b c d u v).a, .int .i64 (rdAt (byt N zs) a b c d u v).b, .int .i64 (rdAt (byt N zs) a b c d u v).c, .int .i64 (rdAt (byt N zs) a b c d u v).d]) ∧ _))).mono ?_
    rintro e X23 ⟨rfl, bc⟩
    refine hK.out _ _ ⟨ck bc hHeld.1, ck bc hHeld.2.1, ck bc hHeld.2.2.1, ck bc hHeld.2.2.2.1, ck bc hHeld.2.2.2.2.1, ck bc hHeld.2.2.2.2.2.1, ck bc hHeld.2.2.2.2.2.2.1, ck bc hHeld.2.2.2.2.2.2.2.1, ck bc hHeld.2.2.2.2.2.2.2.2.1, ck bc hHeld.2.2.2.2.2.2.2.2.2⟩ (fun hHeld => ?_)
    clear hK K
    (try simp only [List.setIfInBounds_toArray, List.set_cons_zero, List.set_cons_succ])
    replace k_r := bk bc k_r
    replace k_c := bk bc k_c
    replace k_q := bk bc k_q
    replace k_p := bk bc k_p
    replace bw := bst bc bw
    (try replace r1 := (r1.below bc).more bc.size)
    clear bc
    refine wpAnyH_ready (rs := [19]) (by kernel_rfl) (by simp) ?_
    refine (AllReadyH.cons rfl (fun K hK => ?_) AllReadyH.nil)
    go_simp
    refine (nrgbaRead_any a b c d N h3 h4 h5 h6 HN.out n cp Z zs u v _ ((HR.out.below bw).more bw.size)).mono ?_
    rintro e X24 ⟨rfl, bc⟩
    refine hK.out _ _ ⟨ck bc hHeld.1, ck bc hHeld.2.1, ck bc hHeld.2.2.1, ck bc hHeld.2.2.2.1, ck bc hHeld.2.2.2.2.1, ck bc hHeld.2.2.2.2.2.1, ck bc hHeld.2.2.2.2.2.2.1, ck bc hHeld.2.2.2.2.2.2.2.1, ck bc hHeld.2.2.2.2.2.2.2.2.1, ck bc hHeld.2.2.2.2.2.2.2.2.2⟩ (fun hHeld => ?_)
    clear hK K
    (try simp only [List.setIfInBounds_toArray, List.set_cons_zero, List.set_cons_succ])
    replace k_r := bk bc k_r
    replace k_c := bk bc k_c
    replace k_q := bk bc k_q
    replace k_p := bk bc k_p
    replace bw := bst bc bw
    (try replace r1 := (r1.below bc).more bc.size)
    clear bc
    refine takx (i := 20) (D := 72) (v := .bool true) rfl rfl (by kernel_rfl) (by kernel_rfl) (by kernel_rfl) (fun _ _ _ h => h) (Or.inl ⟨by rfl, fun W hSw => by (try dsimp only at hSw); go_simp⟩) (by assumption) ?_
    (try simp only [List.setIfInBounds_toArray, List.set_cons_zero, List.set_cons_succ])
    refine takx (i := 21) (D := 73) (v := .bool true) rfl rfl (by kernel_rfl) (by kernel_rfl) (by kernel_rfl) (fun _ _ _ h => h) (Or.inl ⟨by rfl, fun W hSw => by (try dsimp only at hSw); go_simp⟩) (by assumption) ?_
    (try simp only [List.setIfInBounds_toArray, List.set_cons_zero, List.set_cons_succ])
    refine takx (i := 22) (D := 14) (v := .bool true) rfl rfl (by kernel_rfl) (by kernel_rfl) (by kernel_rfl) (fun _ _ _ h => h) (Or.inl ⟨by rfl, fun W hSw => by (try dsimp only at hSw); go_simp⟩) (by assumption) ?_
    (try simp only [List.setIfInBounds_toArray, List.set_cons_zero, List.set_cons_succ])
    refine wpAnyH_done (by kernel_rfl) ?_ _
    clear hHeld
    go_wp2
    go_ret
    exact ⟨rfl, bw⟩

end Go.Proofs.Ytkhofahobcegiaa

/-
  The walk of the law FnNRGBAWriteTwice. No condition.
-/
import Derived.Test.YtkhofahobcegiaaNH1
import Derived.Test.YtkhofahobcegiaaNPL
import Derived.Test.YtkhofahobcegiaaX1
namespace Go.Proofs.Ytkhofahobcegiaa
open Go.ChangeShapes Go.WideShapes Go.ChangeAt Go.RowKit
set_option linter.unusedVariables false
set_option linter.unusedSimpArgs false

set_option maxRecDepth 100000 in
set_option maxHeartbeats 4000000 in
theorem fnNRGBAWriteTwice_walk (w : World) (q : Q4) (hq : q.ok) (Z : Option Addr) (n cp : Nat) (zs : List Int) (hr : Rd w w.heap.size Z n zs) (x : Int) (hx : I64 x) (y : Int) (hy : I64 y) (z : Q4) (hz : z.ok) (u : Int) (hu : I64 u) (v : Int) (hv : I64 v) (t : Q4) (ht : t.ok) :
    Calls Try.prog 13 #[q.val, .slice Z n cp, .int .i64 x, .int .i64 y, z.val, .int .i64 u, .int .i64 v, t.val] w fun e w' => e = .returned (.bool true) ∧ Below w.heap.size w w' := by
  obtain ⟨a, b, c, d⟩ := q
  obtain ⟨ha, hb, hc, hd⟩ := hq
  show Calls Try.prog 13 #[.agg #[.int .i64 a, .int .i64 b, .int .i64 c, .int .i64 d], .slice Z n cp, .int .i64 x, .int .i64 y, .agg #[.int .i64 z.a, .int .i64 z.b, .int .i64 z.c, .int .i64 z.d], .int .i64 u, .int .i64 v, .agg #[.int .i64 t.a, .int .i64 t.b, .int .i64 t.c, .int .i64 t.d]] w _
  have hrs := rect_same a b c d
  have hrd := rect_diff a b c d
  have hp0 := fun st v => pfld0 a b c d st v
  have hp2 := fun st A n cp => pfld2 a b c d st A n cp
  have HR := Lib.hid hr
  clear hr
  by_cases hf : Fine a b c d
  case neg =>
    have HF := Lib.hid hf
    clear hf
    go_enter Try.func13, Try.ntmps13
    go_wp2_with fail
    refine (toRect4 a b c d _).mono ?_
    rintro e w1 ⟨rfl, bc⟩
    have bw := bst bc (bsa (bsa (bsa (Below.refl _ _))))
    have k_r : w1.heap[w.heap.size]? = some (.cells #[.int .i64 a, .int .i64 b, .int .i64 c, .int .i64 d] 23 (0, 0)) := by have := bk bc (bka (bka (heap_alloc_new w _))); simpa using this
    have k_c : w1.heap[w.heap.size + 1]? = some (.cells #[.int .i64 z.a, .int .i64 z.b, .int .i64 z.c, .int .i64 z.d] 44 (0, 0)) := by have := bk bc (bka (heap_alloc_new (w.alloc (.cells #[.int .i64 a, .int .i64 b, .int .i64 c, .int .i64 d] 23)) _)); simpa using this
    have k_e : w1.heap[w.heap.size + 2]? = some (.cells #[.int .i64 t.a, .int .i64 t.b, .int .i64 t.c, .int .i64 t.d] 44 (0, 0)) := by have := bk bc (heap_alloc_new ((w.alloc (.cells #[.int .i64 a, .int .i64 b, .int .i64 c, .int .i64 d] 23)).alloc (.cells #[.int .i64 z.a, .int .i64 z.b, .int .i64 z.c, .int .i64 z.d] 44)) _); simpa using this
    clear bc
    go_upto_region 2 with fail
    obtain ⟨Y1, g_q, eY, eg⟩ : ∃ Y g, Y = w1.alloc (.cells #[.int .i64 a, .int .i64 b, .int .i64 c, .int .i64 d] 25) ∧ g = w1.heap.size := ⟨_, _, rfl, rfl⟩
    rw [← eY, ← eg]
    have bc : Below w1.heap.size w1 Y1 := by rw [eY]; exact (Below.refl _ _).alloc (Nat.le_refl _) _
    have k_q : Y1.heap[g_q]? = some (.cells #[.int .i64 a, .int .i64 b, .int .i64 c, .int .i64 d] 25 (0, 0)) := by rw [eY, eg]; exact heap_alloc_new w1 _
    replace k_r := bk bc k_r
    replace k_c := bk bc k_c
    replace k_e := bk bc k_e
    replace bw := bst bc bw
    clear bc eY eg
    have q_r := q4c k_r
    have q_c := q4c k_c
    have q_e := q4c k_e
    have q_q := q4c k_q
    go_wp2_with fail
    refine (fine_no a b c d ha hb hc hd HF.out _).mono ?_
    rintro e Y2 ⟨rfl, bc⟩
    clear q_r q_c q_e q_q
    replace k_r := bk bc k_r
    replace k_c := bk bc k_c
    replace k_e := bk bc k_e
    replace k_q := bk bc k_q
    replace bw := bst bc bw
    clear bc
    go_wp2
    go_ret
    exact ⟨rfl, bw⟩
  obtain ⟨h3, h4, h5, h6, M, hM⟩ := fine_area hf
  obtain ⟨N, hN⟩ : ∃ N : Nat, 4 * (c - a) * (d - b) = N := ⟨4 * M, by rw [Int.mul_assoc, hM]; omega⟩
  have HF := Lib.hid hf
  have HN := Lib.hid hN
  have HM := Lib.hid hM
  clear hf hN hM
  by_cases hin : In a b c d x y
  case neg =>
    have HI := Lib.hid hin
    clear hin
    go_enter Try.func13, Try.ntmps13
    go_wp2_with fail
    refine (toRect4 a b c d _).mono ?_
    rintro e w1 ⟨rfl, bc⟩
    have bw := bst bc (bsa (bsa (bsa (Below.refl _ _))))
    have k_r : w1.heap[w.heap.size]? = some (.cells #[.int .i64 a, .int .i64 b, .int .i64 c, .int .i64 d] 23 (0, 0)) := by have := bk bc (bka (bka (heap_alloc_new w _))); simpa using this
    have k_c : w1.heap[w.heap.size + 1]? = some (.cells #[.int .i64 z.a, .int .i64 z.b, .int .i64 z.c, .int .i64 z.d] 44 (0, 0)) := by have := bk bc (bka (heap_alloc_new (w.alloc (.cells #[.int .i64 a, .int .i64 b, .int .i64 c, .int .i64 d] 23)) _)); simpa using this
    have k_e : w1.heap[w.heap.size + 2]? = some (.cells #[.int .i64 t.a, .int .i64 t.b, .int .i64 t.c, .int .i64 t.d] 44 (0, 0)) := by have := bk bc (heap_alloc_new ((w.alloc (.cells #[.int .i64 a, .int .i64 b, .int .i64 c, .int .i64 d] 23)).alloc (.cells #[.int .i64 z.a, .int .i64 z.b, .int .i64 z.c, .int .i64 z.d] 44)) _); simpa using this
    clear bc
    go_upto_region 2 with fail
    obtain ⟨Y1, g_q, eY, eg⟩ : ∃ Y g, Y = w1.alloc (.cells #[.int .i64 a, .int .i64 b, .int .i64 c, .int .i64 d] 25) ∧ g = w1.heap.size := ⟨_, _, rfl, rfl⟩
    rw [← eY, ← eg]
    have bc : Below w1.heap.size w1 Y1 := by rw [eY]; exact (Below.refl _ _).alloc (Nat.le_refl _) _
    have k_q : Y1.heap[g_q]? = some (.cells #[.int .i64 a, .int .i64 b, .int .i64 c, .int .i64 d] 25 (0, 0)) := by rw [eY, eg]; exact heap_alloc_new w1 _
    replace k_r := bk bc k_r
    replace k_c := bk bc k_c
    replace k_e := bk bc k_e
    replace bw := bst bc bw
    clear bc eY eg
    have q_r := q4c k_r
    have q_c := q4c k_c
    have q_e := q4c k_e
    have q_q := q4c k_q
    go_wp2_with fail
    refine (fine_yes a b c d HF.out _).mono ?_
    rintro e Y2 ⟨rfl, bc⟩
    clear q_r q_c q_e q_q
    replace k_r := bk bc k_r
    replace k_c := bk bc k_c
    replace k_e := bk bc k_e
    replace k_q := bk bc k_q
    replace bw := bst bc bw
    clear bc
    have q_r := q4c k_r
    have q_c := q4c k_c
    have q_e := q4c k_e
    have q_q := q4c k_q
    go_wp2_with fail
    refine (has_no a b c d x y HI.out _).mono ?_
    rintro e Y3 ⟨rfl, bc⟩
    clear q_r q_c q_e q_q
    replace k_r := bk bc k_r
    replace k_c := bk bc k_c
    replace k_e := bk bc k_e
    replace k_q := bk bc k_q
    replace bw := bst bc bw
    clear bc
    go_wp2
    go_ret
    exact ⟨rfl, bw⟩
  have HI := Lib.hid hin
  clear hin
  by_cases hin : In a b c d u v
  case neg =>
    have HJ := Lib.hid hin
    clear hin
    go_enter Try.func13, Try.ntmps13
    go_wp2_with fail
    refine (toRect4 a b c d _).mono ?_
    rintro e w1 ⟨rfl, bc⟩
    have bw := bst bc (bsa (bsa (bsa (Below.refl _ _))))
    have k_r : w1.heap[w.heap.size]? = some (.cells #[.int .i64 a, .int .i64 b, .int .i64 c, .int .i64 d] 23 (0, 0)) := by have := bk bc (bka (bka (heap_alloc_new w _))); simpa using this
    have k_c : w1.heap[w.heap.size + 1]? = some (.cells #[.int .i64 z.a, .int .i64 z.b, .int .i64 z.c, .int .i64 z.d] 44 (0, 0)) := by have := bk bc (bka (heap_alloc_new (w.alloc (.cells #[.int .i64 a, .int .i64 b, .int .i64 c, .int .i64 d] 23)) _)); simpa using this
    have k_e : w1.heap[w.heap.size + 2]? = some (.cells #[.int .i64 t.a, .int .i64 t.b, .int .i64 t.c, .int .i64 t.d] 44 (0, 0)) := by have := bk bc (heap_alloc_new ((w.alloc (.cells #[.int .i64 a, .int .i64 b, .int .i64 c, .int .i64 d] 23)).alloc (.cells #[.int .i64 z.a, .int .i64 z.b, .int .i64 z.c, .int .i64 z.d] 44)) _); simpa using this
    clear bc
    go_upto_region 2 with fail
    obtain ⟨Y1, g_q, eY, eg⟩ : ∃ Y g, Y = w1.alloc (.cells #[.int .i64 a, .int .i64 b, .int .i64 c, .int .i64 d] 25) ∧ g = w1.heap.size := ⟨_, _, rfl, rfl⟩
    rw [← eY, ← eg]
    have bc : Below w1.heap.size w1 Y1 := by rw [eY]; exact (Below.refl _ _).alloc (Nat.le_refl _) _
    have k_q : Y1.heap[g_q]? = some (.cells #[.int .i64 a, .int .i64 b, .int .i64 c, .int .i64 d] 25 (0, 0)) := by rw [eY, eg]; exact heap_alloc_new w1 _
    replace k_r := bk bc k_r
    replace k_c := bk bc k_c
    replace k_e := bk bc k_e
    replace bw := bst bc bw
    clear bc eY eg
    have q_r := q4c k_r
    have q_c := q4c k_c
    have q_e := q4c k_e
    have q_q := q4c k_q
    go_wp2_with fail
    refine (fine_yes a b c d HF.out _).mono ?_
    rintro e Y2 ⟨rfl, bc⟩
    clear q_r q_c q_e q_q
    replace k_r := bk bc k_r
    replace k_c := bk bc k_c
    replace k_e := bk bc k_e
    replace k_q := bk bc k_q
    replace bw := bst bc bw
    clear bc
    have q_r := q4c k_r
    have q_c := q4c k_c
    have q_e := q4c k_e
    have q_q := q4c k_q
    go_wp2_with fail
    refine (has_yes a b c d x y HI.out _).mono ?_
    rintro e Y3 ⟨rfl, bc⟩
    clear q_r q_c q_e q_q
    replace k_r := bk bc k_r
    replace k_c := bk bc k_c
    replace k_e := bk bc k_e
    replace k_q := bk bc k_q
    replace bw := bst bc bw
    clear bc
    have q_r := q4c k_r
    have q_c := q4c k_c
    have q_e := q4c k_e
    have q_q := q4c k_q
    go_wp2_with fail
    refine (has_no a b c d u v HJ.out _).mono ?_
    rintro e Y4 ⟨rfl, bc⟩
    clear q_r q_c q_e q_q
    replace k_r := bk bc k_r
    replace k_c := bk bc k_c
    replace k_e := bk bc k_e
    replace k_q := bk bc k_q
    replace bw := bst bc bw
    clear bc
    go_wp2
    go_ret
    exact ⟨rfl, bw⟩
  have HJ := Lib.hid hin
  clear hin
  by_cases hxy : x = u ∧ y = v
  case pos =>
    obtain ⟨rfl, rfl⟩ := hxy
    have t1 : (x == x) = true := by simp
    have t2 : (y == y) = true := by simp
    go_enter Try.func13, Try.ntmps13
    go_wp2_with fail
    refine (toRect4 a b c d _).mono ?_
    rintro e w1 ⟨rfl, bc⟩
    have bw := bst bc (bsa (bsa (bsa (Below.refl _ _))))
    have k_r : w1.heap[w.heap.size]? = some (.cells #[.int .i64 a, .int .i64 b, .int .i64 c, .int .i64 d] 23 (0, 0)) := by have := bk bc (bka (bka (heap_alloc_new w _))); simpa using this
    have k_c : w1.heap[w.heap.size + 1]? = some (.cells #[.int .i64 z.a, .int .i64 z.b, .int .i64 z.c, .int .i64 z.d] 44 (0, 0)) := by have := bk bc (bka (heap_alloc_new (w.alloc (.cells #[.int .i64 a, .int .i64 b, .int .i64 c, .int .i64 d] 23)) _)); simpa using this
    have k_e : w1.heap[w.heap.size + 2]? = some (.cells #[.int .i64 t.a, .int .i64 t.b, .int .i64 t.c, .int .i64 t.d] 44 (0, 0)) := by have := bk bc (heap_alloc_new ((w.alloc (.cells #[.int .i64 a, .int .i64 b, .int .i64 c, .int .i64 d] 23)).alloc (.cells #[.int .i64 z.a, .int .i64 z.b, .int .i64 z.c, .int .i64 z.d] 44)) _); simpa using this
    clear bc
    go_upto_region 2 with fail
    obtain ⟨Y1, g_q, eY, eg⟩ : ∃ Y g, Y = w1.alloc (.cells #[.int .i64 a, .int .i64 b, .int .i64 c, .int .i64 d] 25) ∧ g = w1.heap.size := ⟨_, _, rfl, rfl⟩
    rw [← eY, ← eg]
    have bc : Below w1.heap.size w1 Y1 := by rw [eY]; exact (Below.refl _ _).alloc (Nat.le_refl _) _
    have k_q : Y1.heap[g_q]? = some (.cells #[.int .i64 a, .int .i64 b, .int .i64 c, .int .i64 d] 25 (0, 0)) := by rw [eY, eg]; exact heap_alloc_new w1 _
    replace k_r := bk bc k_r
    replace k_c := bk bc k_c
    replace k_e := bk bc k_e
    replace bw := bst bc bw
    clear bc eY eg
    have q_r := q4c k_r
    have q_c := q4c k_c
    have q_e := q4c k_e
    have q_q := q4c k_q
    go_wp2_with fail
    refine (fine_yes a b c d HF.out _).mono ?_
    rintro e Y2 ⟨rfl, bc⟩
    clear q_r q_c q_e q_q
    replace k_r := bk bc k_r
    replace k_c := bk bc k_c
    replace k_e := bk bc k_e
    replace k_q := bk bc k_q
    replace bw := bst bc bw
    clear bc
    have q_r := q4c k_r
    have q_c := q4c k_c
    have q_e := q4c k_e
    have q_q := q4c k_q
    go_wp2_with fail
    refine (has_yes a b c d x y HI.out _).mono ?_
    rintro e Y3 ⟨rfl, bc⟩
    clear q_r q_c q_e q_q
    replace k_r := bk bc k_r
    replace k_c := bk bc k_c
    replace k_e := bk bc k_e
    replace k_q := bk bc k_q
    replace bw := bst bc bw
    clear bc
    have q_r := q4c k_r
    have q_c := q4c k_c
    have q_e := q4c k_e
    have q_q := q4c k_q
    go_wp2_with fail
    refine (has_yes a b c d x y HI.out _).mono ?_
    rintro e Y4 ⟨rfl, bc⟩
    clear q_r q_c q_e q_q
    replace k_r := bk bc k_r
    replace k_c := bk bc k_c
    replace k_e := bk bc k_e
    replace k_q := bk bc k_q
    replace bw := bst bc bw
    clear bc
    go_upto_region 4 with fail
    go_cut [18] (fun s18 wx => ∃ (g_p : Nat) (A2 : Option Addr) (cp2 : Nat), s18 = .pointer (some ⟨g_p, 0, none⟩) ∧ wx.heap[g_p]? = some (.cells #[.int .i64 a, .int .i64 b, .int .i64 c, .int .i64 d, .int .i64 (4 * (c - a)), .slice A2 N cp2] 37 (0, 0)) ∧ wx.heap[w.heap.size]? = some (.cells #[.int .i64 a, .int .i64 b, .int .i64 c, .int .i64 d] 23 (0, 0)) ∧ wx.heap[w.heap.size + 1]? = some (.cells #[.int .i64 z.a, .int .i64 z.b, .int .i64 z.c, .int .i64 z.d] 44 (0, 0)) ∧ wx.heap[w.heap.size + 2]? = some (.cells #[.int .i64 t.a, .int .i64 t.b, .int .i64 t.c, .int .i64 t.d] 44 (0, 0)) ∧ wx.heap[g_q]? = some (.cells #[.int .i64 a, .int .i64 b, .int .i64 c, .int .i64 d] 25 (0, 0)) ∧ Hid (Rd wx wx.heap.size A2 N (wrAt (byt N (wrAt (byt N zs) a b c d x y z)) a b c d x y t)) ∧ Hid (Below w.heap.size w wx))
    case first =>
      refine wp_region_held_drew (S := fun w' => w'.cell? ⟨g_q, 0, none⟩ = some (.int .i64 a) ∧ w'.cell? ⟨g_q, 1, none⟩ = some (.int .i64 b) ∧ w'.cell? ⟨g_q, 2, none⟩ = some (.int .i64 c) ∧ w'.cell? ⟨g_q, 3, none⟩ = some (.int .i64 d) ∧ w'.cell? ⟨w.heap.size + 1, 0, none⟩ = some (.int .i64 z.a) ∧ w'.cell? ⟨w.heap.size + 1, 1, none⟩ = some (.int .i64 z.b) ∧ w'.cell? ⟨w.heap.size + 1, 2, none⟩ = some (.int .i64 z.c) ∧ w'.cell? ⟨w.heap.size + 1, 3, none⟩ = some (.int .i64 z.d) ∧ w'.cell? ⟨w.heap.size + 2, 0, none⟩ = some (.int .i64 t.a) ∧ w'.cell? ⟨w.heap.size + 2, 1, none⟩ = some (.int .i64 t.b) ∧ w'.cell? ⟨w.heap.size + 2, 2, none⟩ = some (.int .i64 t.c) ∧ w'.cell? ⟨w.heap.size + 2, 3, none⟩ = some (.int .i64 t.d)) (by kernel_rfl) ⟨(q4c k_q).1.1, (q4c k_q).1.2.1, (q4c k_q).1.2.2.1, (q4c k_q).1.2.2.2, (q4c k_c).1.1, (q4c k_c).1.2.1, (q4c k_c).1.2.2.1, (q4c k_c).1.2.2.2, (q4c k_e).1.1, (q4c k_e).1.2.1, (q4c k_e).1.2.2.1, (q4c k_e).1.2.2.2⟩ ?_
      intro hHeld
      obtain ⟨X5, eX, bc⟩ : ∃ X, X = Y4.drew ∧ Below Y4.heap.size Y4 X := ⟨_, rfl, (Below.refl _ _).drew⟩
      rw [← eX] at hHeld ⊢
      replace k_r := bk bc k_r
      replace k_c := bk bc k_c
      replace k_e := bk bc k_e
      replace k_q := bk bc k_q
      replace bw := bst bc bw
      (try replace r1 := (r1.below bc).more bc.size)
      (try replace r2 := (r2.below bc).more bc.size)
      clear eX bc
      refine takx (i := 0) (D := 38) (v := .agg #[.int .i64 a, .int .i64 b, .int .i64 c, .int .i64 d]) rfl rfl (by kernel_rfl) (by kernel_rfl) (by kernel_rfl) (fun _ _ _ h => h) (Or.inl ⟨by rfl, fun W hSw => by (try dsimp only at hSw); go_simp⟩) (by assumption) ?_
      (try simp only [List.setIfInBounds_toArray, List.set_cons_zero, List.set_cons_succ])
      refine takx (i := 1) (D := 39) (v := .agg #[.int .i64 a, .int .i64 b, .int .i64 c, .int .i64 d]) rfl rfl (by kernel_rfl) (by kernel_rfl) (by kernel_rfl) (fun _ _ _ h => h) (Or.inl ⟨by rfl, fun W hSw => by (try dsimp only at hSw); go_simp⟩) (by assumption) ?_
      (try simp only [List.setIfInBounds_toArray, List.set_cons_zero, List.set_cons_succ])
      refine takx (i := 2) (D := 40) (v := .slice Z n cp) rfl rfl (by kernel_rfl) (by kernel_rfl) (by kernel_rfl) (fun _ _ _ h => h) (Or.inl ⟨by rfl, fun W hSw => by (try dsimp only at hSw); go_simp⟩) (by assumption) ?_
      (try simp only [List.setIfInBounds_toArray, List.set_cons_zero, List.set_cons_succ])
      refine takx (i := 3) (D := 41) (v := .int .i64 x) rfl rfl (by kernel_rfl) (by kernel_rfl) (by kernel_rfl) (fun _ _ _ h => h) (Or.inl ⟨by rfl, fun W hSw => by (try dsimp only at hSw); go_simp⟩) (by assumption) ?_
      (try simp only [List.setIfInBounds_toArray, List.set_cons_zero, List.set_cons_succ])
      refine takx (i := 4) (D := 42) (v := .int .i64 y) rfl rfl (by kernel_rfl) (by kernel_rfl) (by kernel_rfl) (fun _ _ _ h => h) (Or.inl ⟨by rfl, fun W hSw => by (try dsimp only at hSw); go_simp⟩) (by assumption) ?_
      (try simp only [List.setIfInBounds_toArray, List.set_cons_zero, List.set_cons_succ])
      refine takx (i := 5) (D := 43) (v := .agg #[.int .i64 z.a, .int .i64 z.b, .int .i64 z.c, .int .i64 z.d]) rfl rfl (by kernel_rfl) (by kernel_rfl) (by kernel_rfl) (fun _ _ _ h => h) (Or.inl ⟨by rfl, fun W hSw => by (try dsimp only at hSw); go_simp⟩) (by assumption) ?_
      (try simp only [List.setIfInBounds_toArray, List.set_cons_zero, List.set_cons_succ])
      refine takx (i := 9) (D := 47) (v := .int .i64 x) rfl rfl (by kernel_rfl) (by kernel_rfl) (by kernel_rfl) (fun _ _ _ h => h) (Or.inl ⟨by rfl, fun W hSw => by (try dsimp only at hSw); go_simp⟩) (by assumption) ?_
      (try simp only [List.setIfInBounds_toArray, List.set_cons_zero, List.set_cons_succ])
      refine takx (i := 10) (D := 48) (v := .int .i64 y) rfl rfl (by kernel_rfl) (by kernel_rfl) (by kernel_rfl) (fun _ _ _ h => h) (Or.inl ⟨by rfl, fun W hSw => by (try dsimp only at hSw); go_simp⟩) (by assumption) ?_
      (try simp only [List.setIfInBounds_toArray, List.set_cons_zero, List.set_cons_succ])
      refine takx (i := 11) (D := 49) (v := .agg #[.int .i64 t.a, .int .i64 t.b, .int .i64 t.c, .int .i64 t.d]) rfl rfl (by kernel_rfl) (by kernel_rfl) (by kernel_rfl) (fun _ _ _ h => h) (Or.inl ⟨by rfl, fun W hSw => by (try dsimp only at hSw); go_simp⟩) (by assumption) ?_
      (try simp only [List.setIfInBounds_toArray, List.set_cons_zero, List.set_cons_succ])
      refine wpAnyH_ready (rs := [6, 14]) (by kernel_rfl) (by simp) ?_
      refine (AllReadyH.cons rfl (fun K hK => ?_) (AllReadyH.cons rfl (fun K hK => ?_) AllReadyH.nil))
      · go_simp
        refine (toColor4 z.a z.b z.c z.d _).mono ?_
        rintro e X6 ⟨rfl, bc⟩
        refine hK.out _ _ ⟨ck bc hHeld.1, ck bc hHeld.2.1, ck bc hHeld.2.2.1, ck bc hHeld.2.2.2.1, ck bc hHeld.2.2.2.2.1, ck bc hHeld.2.2.2.2.2.1, ck bc hHeld.2.2.2.2.2.2.1, ck bc hHeld.2.2.2.2.2.2.2.1, ck bc hHeld.2.2.2.2.2.2.2.2.1, ck bc hHeld.2.2.2.2.2.2.2.2.2.1, ck bc hHeld.2.2.2.2.2.2.2.2.2.2.1, ck bc hHeld.2.2.2.2.2.2.2.2.2.2.2⟩ (fun hHeld => ?_)
        clear hK K
        (try simp only [List.setIfInBounds_toArray, List.set_cons_zero, List.set_cons_succ])
        replace k_r := bk bc k_r
        replace k_c := bk bc k_c
        replace k_e := bk bc k_e
        replace k_q := bk bc k_q
        replace bw := bst bc bw
        (try replace r1 := (r1.below bc).more bc.size)
        (try replace r2 := (r2.below bc).more bc.size)
        clear bc
        refine wpAnyH_ready (rs := [7, 14]) (by kernel_rfl) (by simp) ?_
        refine (AllReadyH.cons rfl (fun K hK => ?_) (AllReadyH.cons rfl (fun K hK => ?_) AllReadyH.nil))
        · go_simp
          refine (nrgbaWrite_any a b c d N h3 h4 h5 h6 HN.out n cp Z (zs) x y z _ ((HR.out.below bw).more bw.size)).mono ?_
          rintro e X7 ⟨A1, cp1, rfl, r1, lo1, bc⟩
          refine hK.out _ _ ⟨ck bc hHeld.1, ck bc hHeld.2.1, ck bc hHeld.2.2.1, ck bc hHeld.2.2.2.1, ck bc hHeld.2.2.2.2.1, ck bc hHeld.2.2.2.2.2.1, ck bc hHeld.2.2.2.2.2.2.1, ck bc hHeld.2.2.2.2.2.2.2.1, ck bc hHeld.2.2.2.2.2.2.2.2.1, ck bc hHeld.2.2.2.2.2.2.2.2.2.1, ck bc hHeld.2.2.2.2.2.2.2.2.2.2.1, ck bc hHeld.2.2.2.2.2.2.2.2.2.2.2⟩ (fun hHeld => ?_)
          clear hK K
          (try simp only [List.setIfInBounds_toArray, List.set_cons_zero, List.set_cons_succ])
          replace k_r := bk bc k_r
          replace k_c := bk bc k_c
          replace k_e := bk bc k_e
          replace k_q := bk bc k_q
          replace bw := bst bc bw
          (try replace r1 := (r1.below bc).more bc.size)
          (try replace r2 := (r2.below bc).more bc.size)
          clear bc
          refine takx (i := 8) (D := 46) (v := .slice A1 N cp1) rfl rfl (by kernel_rfl) (by kernel_rfl) (by kernel_rfl) (fun _ _ _ h => h) (Or.inl ⟨by rfl, fun W hSw => by (try dsimp only at hSw); go_simp⟩) (by assumption) ?_
          (try simp only [List.setIfInBounds_toArray, List.set_cons_zero, List.set_cons_succ])
          refine wpAnyH_ready (rs := [12, 14]) (by kernel_rfl) (by simp) ?_
          refine (AllReadyH.cons rfl (fun K hK => ?_) (AllReadyH.cons rfl (fun K hK => ?_) AllReadyH.nil))
          · go_simp
            refine (toColor4 t.a t.b t.c t.d _).mono ?_
            rintro e X8 ⟨rfl, bc⟩
            refine hK.out _ _ ⟨ck bc hHeld.1, ck bc hHeld.2.1, ck bc hHeld.2.2.1, ck bc hHeld.2.2.2.1, ck bc hHeld.2.2.2.2.1, ck bc hHeld.2.2.2.2.2.1, ck bc hHeld.2.2.2.2.2.2.1, ck bc hHeld.2.2.2.2.2.2.2.1, ck bc hHeld.2.2.2.2.2.2.2.2.1, ck bc hHeld.2.2.2.2.2.2.2.2.2.1, ck bc hHeld.2.2.2.2.2.2.2.2.2.2.1, ck bc hHeld.2.2.2.2.2.2.2.2.2.2.2⟩ (fun hHeld => ?_)
            clear hK K
            (try simp only [List.setIfInBounds_toArray, List.set_cons_zero, List.set_cons_succ])
            replace k_r := bk bc k_r
            replace k_c := bk bc k_c
            replace k_e := bk bc k_e
            replace k_q := bk bc k_q
            replace bw := bst bc bw
            (try replace r1 := (r1.below bc).more bc.size)
            (try replace r2 := (r2.below bc).more bc.size)
            clear bc
            refine wpAnyH_ready (rs := [13, 14]) (by kernel_rfl) (by simp) ?_
            refine (AllReadyH.cons rfl (fun K hK => ?_) (AllReadyH.cons rfl (fun K hK => ?_) AllReadyH.nil))
            · go_simp
              refine (nrgbaWrite_any a b c d N h3 h4 h5 h6 HN.out N cp1 A1 (wrAt (byt N zs) a b c d x y z) x y t _ r1).mono ?_
              rintro e X9 ⟨A2, cp2, rfl, r2, lo2, bc⟩
              refine hK.out _ _ ⟨ck bc hHeld.1, ck bc hHeld.2.1, ck bc hHeld.2.2.1, ck bc hHeld.2.2.2.1, ck bc hHeld.2.2.2.2.1, ck bc hHeld.2.2.2.2.2.1, ck bc hHeld.2.2.2.2.2.2.1, ck bc hHeld.2.2.2.2.2.2.2.1, ck bc hHeld.2.2.2.2.2.2.2.2.1, ck bc hHeld.2.2.2.2.2.2.2.2.2.1, ck bc hHeld.2.2.2.2.2.2.2.2.2.2.1, ck bc hHeld.2.2.2.2.2.2.2.2.2.2.2⟩ (fun hHeld => ?_)
              clear hK K
              (try simp only [List.setIfInBounds_toArray, List.set_cons_zero, List.set_cons_succ])
              replace k_r := bk bc k_r
              replace k_c := bk bc k_c
              replace k_e := bk bc k_e
              replace k_q := bk bc k_q
              replace bw := bst bc bw
              (try replace r1 := (r1.below bc).more bc.size)
              (try replace r2 := (r2.below bc).more bc.size)
              clear bc
              refine wpAnyH_ready (rs := [14]) (by kernel_rfl) (by simp) ?_
              refine (AllReadyH.cons rfl (fun K hK => ?_) AllReadyH.nil)
              go_simp
              refine hK.out _ _ ⟨cka hHeld.1, cka hHeld.2.1, cka hHeld.2.2.1, cka hHeld.2.2.2.1, cka hHeld.2.2.2.2.1, cka hHeld.2.2.2.2.2.1, cka hHeld.2.2.2.2.2.2.1, cka hHeld.2.2.2.2.2.2.2.1, cka hHeld.2.2.2.2.2.2.2.2.1, cka hHeld.2.2.2.2.2.2.2.2.2.1, cka hHeld.2.2.2.2.2.2.2.2.2.2.1, cka hHeld.2.2.2.2.2.2.2.2.2.2.2⟩ (fun hHeld => ?_)
              clear hK K
              (try simp only [List.setIfInBounds_toArray, List.set_cons_zero, List.set_cons_succ])
              obtain ⟨X10, g10, eY, eg⟩ : ∃ Y g, Y = X9.alloc (.cells #[.int .i64 0, .int .i64 0, .int .i64 0, .int .i64 0, .int .i64 0, .slice none 0 0] 37) ∧ g = X9.heap.size := ⟨_, _, rfl, rfl⟩
              rw [← eY, ← eg]
              rw [← eY] at hHeld
              have bc : Below X9.heap.size X9 X10 := by rw [eY]; exact (Below.refl _ _).alloc (Nat.le_refl _) _
              have k_n18 : X10.heap[g10]? = some (.cells #[.int .i64 0, .int .i64 0, .int .i64 0, .int .i64 0, .int .i64 0, .slice none 0 0] 37 (0, 0)) := by rw [eY, eg]; exact heap_alloc_new X9 _
              have lo_n18 : w.heap.size ≤ g10 := by rw [eg]; exact bw.size
              have ne_r_n18 : ¬ w.heap.size = g10 := ne_new k_r eg
              have ne_c_n18 : ¬ w.heap.size + 1 = g10 := ne_new k_c eg
              have ne_e_n18 : ¬ w.heap.size + 2 = g10 := ne_new k_e eg
              have ne_q_n18 : ¬ g_q = g10 := ne_new k_q eg
              (try have na_r1 := Rd.ne_new r1 eg)
              (try have na_r2 := Rd.ne_new r2 eg)
              replace k_r := bk bc k_r
              replace k_c := bk bc k_c
              replace k_e := bk bc k_e
              replace k_q := bk bc k_q
              replace bw := bst bc bw
              (try replace r1 := (r1.below bc).more bc.size)
              (try replace r2 := (r2.below bc).more bc.size)
              clear bc eY eg
              refine wpAnyH_ready (rs := [15]) (by kernel_rfl) (by simp) ?_
              refine (AllReadyH.cons rfl (fun K hK => ?_) AllReadyH.nil)
              have qq := q6c k_n18
              go_simp
              clear qq
              refine hK.out _ _ ⟨(cks ne_q_n18 (cks ne_q_n18 (cks ne_q_n18 (cks ne_q_n18 (cks ne_q_n18 (cks ne_q_n18 hHeld.1)))))), (cks ne_q_n18 (cks ne_q_n18 (cks ne_q_n18 (cks ne_q_n18 (cks ne_q_n18 (cks ne_q_n18 hHeld.2.1)))))), (cks ne_q_n18 (cks ne_q_n18 (cks ne_q_n18 (cks ne_q_n18 (cks ne_q_n18 (cks ne_q_n18 hHeld.2.2.1)))))), (cks ne_q_n18 (cks ne_q_n18 (cks ne_q_n18 (cks ne_q_n18 (cks ne_q_n18 (cks ne_q_n18 hHeld.2.2.2.1)))))), (cks ne_c_n18 (cks ne_c_n18 (cks ne_c_n18 (cks ne_c_n18 (cks ne_c_n18 (cks ne_c_n18 hHeld.2.2.2.2.1)))))), (cks ne_c_n18 (cks ne_c_n18 (cks ne_c_n18 (cks ne_c_n18 (cks ne_c_n18 (cks ne_c_n18 hHeld.2.2.2.2.2.1)))))), (cks ne_c_n18 (cks ne_c_n18 (cks ne_c_n18 (cks ne_c_n18 (cks ne_c_n18 (cks ne_c_n18 hHeld.2.2.2.2.2.2.1)))))), (cks ne_c_n18 (cks ne_c_n18 (cks ne_c_n18 (cks ne_c_n18 (cks ne_c_n18 (cks ne_c_n18 hHeld.2.2.2.2.2.2.2.1)))))), (cks ne_e_n18 (cks ne_e_n18 (cks ne_e_n18 (cks ne_e_n18 (cks ne_e_n18 (cks ne_e_n18 hHeld.2.2.2.2.2.2.2.2.1)))))), (cks ne_e_n18 (cks ne_e_n18 (cks ne_e_n18 (cks ne_e_n18 (cks ne_e_n18 (cks ne_e_n18 hHeld.2.2.2.2.2.2.2.2.2.1)))))), (cks ne_e_n18 (cks ne_e_n18 (cks ne_e_n18 (cks ne_e_n18 (cks ne_e_n18 (cks ne_e_n18 hHeld.2.2.2.2.2.2.2.2.2.2.1)))))), (cks ne_e_n18 (cks ne_e_n18 (cks ne_e_n18 (cks ne_e_n18 (cks ne_e_n18 (cks ne_e_n18 hHeld.2.2.2.2.2.2.2.2.2.2.2))))))⟩ (fun hHeld => ?_)
              clear hK K
              (try simp only [List.setIfInBounds_toArray, List.set_cons_zero, List.set_cons_succ])
              obtain ⟨X11, eY⟩ : ∃ Y, Y = ((((((X10.setCell ⟨g10, 0, none⟩ (.int .i64 a)).setCell ⟨g10, 1, none⟩ (.int .i64 b)).setCell ⟨g10, 2, none⟩ (.int .i64 c)).setCell ⟨g10, 3, none⟩ (.int .i64 d)).setCell ⟨g10, 4, none⟩ (.int .i64 (4 * (c - a)))).setCell ⟨g10, 5, none⟩ (.slice A2 N cp2)) := ⟨_, rfl⟩
              rw [← eY] at hHeld ⊢
              replace k_r : X11.heap[w.heap.size]? = some (.cells #[.int .i64 a, .int .i64 b, .int .i64 c, .int .i64 d] 23 (0, 0)) := by rw [eY]; exact (bks ne_r_n18 (bks ne_r_n18 (bks ne_r_n18 (bks ne_r_n18 (bks ne_r_n18 (bks ne_r_n18 k_r))))))
              replace k_c : X11.heap[w.heap.size + 1]? = some (.cells #[.int .i64 z.a, .int .i64 z.b, .int .i64 z.c, .int .i64 z.d] 44 (0, 0)) := by rw [eY]; exact (bks ne_c_n18 (bks ne_c_n18 (bks ne_c_n18 (bks ne_c_n18 (bks ne_c_n18 (bks ne_c_n18 k_c))))))
              replace k_e : X11.heap[w.heap.size + 2]? = some (.cells #[.int .i64 t.a, .int .i64 t.b, .int .i64 t.c, .int .i64 t.d] 44 (0, 0)) := by rw [eY]; exact (bks ne_e_n18 (bks ne_e_n18 (bks ne_e_n18 (bks ne_e_n18 (bks ne_e_n18 (bks ne_e_n18 k_e))))))
              replace k_q : X11.heap[g_q]? = some (.cells #[.int .i64 a, .int .i64 b, .int .i64 c, .int .i64 d] 25 (0, 0)) := by rw [eY]; exact (bks ne_q_n18 (bks ne_q_n18 (bks ne_q_n18 (bks ne_q_n18 (bks ne_q_n18 (bks ne_q_n18 k_q))))))
              replace bw : Below w.heap.size w X11 := by rw [eY]; exact (bss lo_n18 (bss lo_n18 (bss lo_n18 (bss lo_n18 (bss lo_n18 (bss lo_n18 bw))))))
              replace k_n18 : X11.heap[g10]? = some (.cells #[.int .i64 a, .int .i64 b, .int .i64 c, .int .i64 d, .int .i64 (4 * (c - a)), .slice A2 N cp2] 37 (0, 0)) := by rw [eY]; exact q6s k_n18
              (try replace r1 := Rd.sized (W := X11) (Rd.sset na_r1 (Rd.sset na_r1 (Rd.sset na_r1 (Rd.sset na_r1 (Rd.sset na_r1 (Rd.sset na_r1 r1)))))) eY)
              (try replace r2 := Rd.sized (W := X11) (Rd.sset na_r2 (Rd.sset na_r2 (Rd.sset na_r2 (Rd.sset na_r2 (Rd.sset na_r2 (Rd.sset na_r2 r2)))))) eY)
              clear eY
              refine wpAnyH_done (by kernel_rfl) ?_ _
              go_wp2_with fail
              go_meet
              exact ⟨_, A2, cp2, rfl, k_n18, k_r, k_c, k_e, k_q, r2, bw⟩
            · go_simp
              refine hK.out _ _ ⟨cka hHeld.1, cka hHeld.2.1, cka hHeld.2.2.1, cka hHeld.2.2.2.1, cka hHeld.2.2.2.2.1, cka hHeld.2.2.2.2.2.1, cka hHeld.2.2.2.2.2.2.1, cka hHeld.2.2.2.2.2.2.2.1, cka hHeld.2.2.2.2.2.2.2.2.1, cka hHeld.2.2.2.2.2.2.2.2.2.1, cka hHeld.2.2.2.2.2.2.2.2.2.2.1, cka hHeld.2.2.2.2.2.2.2.2.2.2.2⟩ (fun hHeld => ?_)
              clear hK K
              (try simp only [List.setIfInBounds_toArray, List.set_cons_zero, List.set_cons_succ])
              obtain ⟨X12, g12, eY, eg⟩ : ∃ Y g, Y = X8.alloc (.cells #[.int .i64 0, .int .i64 0, .int .i64 0, .int .i64 0, .int .i64 0, .slice none 0 0] 37) ∧ g = X8.heap.size := ⟨_, _, rfl, rfl⟩
              rw [← eY, ← eg]
              rw [← eY] at hHeld
              have bc : Below X8.heap.size X8 X12 := by rw [eY]; exact (Below.refl _ _).alloc (Nat.le_refl _) _
              have k_n18 : X12.heap[g12]? = some (.cells #[.int .i64 0, .int .i64 0, .int .i64 0, .int .i64 0, .int .i64 0, .slice none 0 0] 37 (0, 0)) := by rw [eY, eg]; exact heap_alloc_new X8 _
              have lo_n18 : w.heap.size ≤ g12 := by rw [eg]; exact bw.size
              have ne_r_n18 : ¬ w.heap.size = g12 := ne_new k_r eg
              have ne_c_n18 : ¬ w.heap.size + 1 = g12 := ne_new k_c eg
              have ne_e_n18 : ¬ w.heap.size + 2 = g12 := ne_new k_e eg
              have ne_q_n18 : ¬ g_q = g12 := ne_new k_q eg
              (try have na_r1 := Rd.ne_new r1 eg)
              (try have na_r2 := Rd.ne_new r2 eg)
              replace k_r := bk bc k_r
              replace k_c := bk bc k_c
              replace k_e := bk bc k_e
              replace k_q := bk bc k_q
              replace bw := bst bc bw
              (try replace r1 := (r1.below bc).more bc.size)
              (try replace r2 := (r2.below bc).more bc.size)
              clear bc eY eg
              refine wpAnyH_ready (rs := [13]) (by kernel_rfl) (by simp) ?_
              refine (AllReadyH.cons rfl (fun K hK => ?_) AllReadyH.nil)
              go_simp
              refine (nrgbaWrite_any a b c d N h3 h4 h5 h6 HN.out N cp1 A1 (wrAt (byt N zs) a b c d x y z) x y t _ r1).mono ?_
              rintro e X13 ⟨A2, cp2, rfl, r2, lo2, bc⟩
              refine hK.out _ _ ⟨ck bc hHeld.1, ck bc hHeld.2.1, ck bc hHeld.2.2.1, ck bc hHeld.2.2.2.1, ck bc hHeld.2.2.2.2.1, ck bc hHeld.2.2.2.2.2.1, ck bc hHeld.2.2.2.2.2.2.1, ck bc hHeld.2.2.2.2.2.2.2.1, ck bc hHeld.2.2.2.2.2.2.2.2.1, ck bc hHeld.2.2.2.2.2.2.2.2.2.1, ck bc hHeld.2.2.2.2.2.2.2.2.2.2.1, ck bc hHeld.2.2.2.2.2.2.2.2.2.2.2⟩ (fun hHeld => ?_)
              clear hK K
              (try simp only [List.setIfInBounds_toArray, List.set_cons_zero, List.set_cons_succ])
              have na_r2 := lo_ne (n := N) lo2 k_n18
              replace k_r := bk bc k_r
              replace k_c := bk bc k_c
              replace k_e := bk bc k_e
              replace k_q := bk bc k_q
              replace k_n18 := bk bc k_n18
              replace bw := bst bc bw
              (try replace r1 := (r1.below bc).more bc.size)
              (try replace r2 := (r2.below bc).more bc.size)
              clear bc
              refine wpAnyH_ready (rs := [15]) (by kernel_rfl) (by simp) ?_
              refine (AllReadyH.cons rfl (fun K hK => ?_) AllReadyH.nil)
              have qq := q6c k_n18
              go_simp
              clear qq
              refine hK.out _ _ ⟨(cks ne_q_n18 (cks ne_q_n18 (cks ne_q_n18 (cks ne_q_n18 (cks ne_q_n18 (cks ne_q_n18 hHeld.1)))))), (cks ne_q_n18 (cks ne_q_n18 (cks ne_q_n18 (cks ne_q_n18 (cks ne_q_n18 (cks ne_q_n18 hHeld.2.1)))))), (cks ne_q_n18 (cks ne_q_n18 (cks ne_q_n18 (cks ne_q_n18 (cks ne_q_n18 (cks ne_q_n18 hHeld.2.2.1)))))), (cks ne_q_n18 (cks ne_q_n18 (cks ne_q_n18 (cks ne_q_n18 (cks ne_q_n18 (cks ne_q_n18 hHeld.2.2.2.1)))))), (cks ne_c_n18 (cks ne_c_n18 (cks ne_c_n18 (cks ne_c_n18 (cks ne_c_n18 (cks ne_c_n18 hHeld.2.2.2.2.1)))))), (cks ne_c_n18 (cks ne_c_n18 (cks ne_c_n18 (cks ne_c_n18 (cks ne_c_n18 (cks ne_c_n18 hHeld.2.2.2.2.2.1)))))), (cks ne_c_n18 (cks ne_c_n18 (cks ne_c_n18 (cks ne_c_n18 (cks ne_c_n18 (cks ne_c_n18 hHeld.2.2.2.2.2.2.1)))))), (cks ne_c_n18 (cks ne_c_n18 (cks ne_c_n18 (cks ne_c_n18 (cks ne_c_n18 (cks ne_c_n18 hHeld.2.2.2.2.2.2.2.1)))))), (cks ne_e_n18 (cks ne_e_n18 (cks ne_e_n18 (cks ne_e_n18 (cks ne_e_n18 (cks ne_e_n18 hHeld.2.2.2.2.2.2.2.2.1)))))), (cks ne_e_n18 (cks ne_e_n18 (cks ne_e_n18 (cks ne_e_n18 (cks ne_e_n18 (cks ne_e_n18 hHeld.2.2.2.2.2.2.2.2.2.1)))))), (cks ne_e_n18 (cks ne_e_n18 (cks ne_e_n18 (cks ne_e_n18 (cks ne_e_n18 (cks ne_e_n18 hHeld.2.2.2.2.2.2.2.2.2.2.1)))))), (cks ne_e_n18 (cks ne_e_n18 (cks ne_e_n18 (cks ne_e_n18 (cks ne_e_n18 (cks ne_e_n18 hHeld.2.2.2.2.2.2.2.2.2.2.2))))))⟩ (fun hHeld => ?_)
              clear hK K
              (try simp only [List.setIfInBounds_toArray, List.set_cons_zero, List.set_cons_succ])
              obtain ⟨X14, eY⟩ : ∃ Y, Y = ((((((X13.setCell ⟨g12, 0, none⟩ (.int .i64 a)).setCell ⟨g12, 1, none⟩ (.int .i64 b)).setCell ⟨g12, 2, none⟩ (.int .i64 c)).setCell ⟨g12, 3, none⟩ (.int .i64 d)).setCell ⟨g12, 4, none⟩ (.int .i64 (4 * (c - a)))).setCell ⟨g12, 5, none⟩ (.slice A2 N cp2)) := ⟨_, rfl⟩
              rw [← eY] at hHeld ⊢
              replace k_r : X14.heap[w.heap.size]? = some (.cells #[.int .i64 a, .int .i64 b, .int .i64 c, .int .i64 d] 23 (0, 0)) := by rw [eY]; exact (bks ne_r_n18 (bks ne_r_n18 (bks ne_r_n18 (bks ne_r_n18 (bks ne_r_n18 (bks ne_r_n18 k_r))))))
              replace k_c : X14.heap[w.heap.size + 1]? = some (.cells #[.int .i64 z.a, .int .i64 z.b, .int .i64 z.c, .int .i64 z.d] 44 (0, 0)) := by rw [eY]; exact (bks ne_c_n18 (bks ne_c_n18 (bks ne_c_n18 (bks ne_c_n18 (bks ne_c_n18 (bks ne_c_n18 k_c))))))
              replace k_e : X14.heap[w.heap.size + 2]? = some (.cells #[.int .i64 t.a, .int .i64 t.b, .int .i64 t.c, .int .i64 t.d] 44 (0, 0)) := by rw [eY]; exact (bks ne_e_n18 (bks ne_e_n18 (bks ne_e_n18 (bks ne_e_n18 (bks ne_e_n18 (bks ne_e_n18 k_e))))))
              replace k_q : X14.heap[g_q]? = some (.cells #[.int .i64 a, .int .i64 b, .int .i64 c, .int .i64 d] 25 (0, 0)) := by rw [eY]; exact (bks ne_q_n18 (bks ne_q_n18 (bks ne_q_n18 (bks ne_q_n18 (bks ne_q_n18 (bks ne_q_n18 k_q))))))
              replace bw : Below w.heap.size w X14 := by rw [eY]; exact (bss lo_n18 (bss lo_n18 (bss lo_n18 (bss lo_n18 (bss lo_n18 (bss lo_n18 bw))))))
              replace k_n18 : X14.heap[g12]? = some (.cells #[.int .i64 a, .int .i64 b, .int .i64 c, .int .i64 d, .int .i64 (4 * (c - a)), .slice A2 N cp2] 37 (0, 0)) := by rw [eY]; exact q6s k_n18
              (try replace r1 := Rd.sized (W := X14) (Rd.sset na_r1 (Rd.sset na_r1 (Rd.sset na_r1 (Rd.sset na_r1 (Rd.sset na_r1 (Rd.sset na_r1 r1)))))) eY)
              (try replace r2 := Rd.sized (W := X14) (Rd.sset na_r2 (Rd.sset na_r2 (Rd.sset na_r2 (Rd.sset na_r2 (Rd.sset na_r2 (Rd.sset na_r2 r2)))))) eY)
              clear eY
              refine wpAnyH_done (by kernel_rfl) ?_ _
              go_wp2_with fail
              go_meet
              exact ⟨_, A2, cp2, rfl, k_n18, k_r, k_c, k_e, k_q, r2, bw⟩
          · go_simp
            refine hK.out _ _ ⟨cka hHeld.1, cka hHeld.2.1, cka hHeld.2.2.1, cka hHeld.2.2.2.1, cka hHeld.2.2.2.2.1, cka hHeld.2.2.2.2.2.1, cka hHeld.2.2.2.2.2.2.1, cka hHeld.2.2.2.2.2.2.2.1, cka hHeld.2.2.2.2.2.2.2.2.1, cka hHeld.2.2.2.2.2.2.2.2.2.1, cka hHeld.2.2.2.2.2.2.2.2.2.2.1, cka hHeld.2.2.2.2.2.2.2.2.2.2.2⟩ (fun hHeld => ?_)
            clear hK K
            (try simp only [List.setIfInBounds_toArray, List.set_cons_zero, List.set_cons_succ])
            obtain ⟨X15, g15, eY, eg⟩ : ∃ Y g, Y = X7.alloc (.cells #[.int .i64 0, .int .i64 0, .int .i64 0, .int .i64 0, .int .i64 0, .slice none 0 0] 37) ∧ g = X7.heap.size := ⟨_, _, rfl, rfl⟩
            rw [← eY, ← eg]
            rw [← eY] at hHeld
            have bc : Below X7.heap.size X7 X15 := by rw [eY]; exact (Below.refl _ _).alloc (Nat.le_refl _) _
            have k_n18 : X15.heap[g15]? = some (.cells #[.int .i64 0, .int .i64 0, .int .i64 0, .int .i64 0, .int .i64 0, .slice none 0 0] 37 (0, 0)) := by rw [eY, eg]; exact heap_alloc_new X7 _
            have lo_n18 : w.heap.size ≤ g15 := by rw [eg]; exact bw.size
            have ne_r_n18 : ¬ w.heap.size = g15 := ne_new k_r eg
            have ne_c_n18 : ¬ w.heap.size + 1 = g15 := ne_new k_c eg
            have ne_e_n18 : ¬ w.heap.size + 2 = g15 := ne_new k_e eg
            have ne_q_n18 : ¬ g_q = g15 := ne_new k_q eg
            (try have na_r1 := Rd.ne_new r1 eg)
            (try have na_r2 := Rd.ne_new r2 eg)
            replace k_r := bk bc k_r
            replace k_c := bk bc k_c
            replace k_e := bk bc k_e
            replace k_q := bk bc k_q
            replace bw := bst bc bw
            (try replace r1 := (r1.below bc).more bc.size)
            (try replace r2 := (r2.below bc).more bc.size)
            clear bc eY eg
            refine wpAnyH_ready (rs := [12]) (by kernel_rfl) (by simp) ?_
            refine (AllReadyH.cons rfl (fun K hK => ?_) AllReadyH.nil)
            go_simp
            refine (toColor4 t.a t.b t.c t.d _).mono ?_
            rintro e X16 ⟨rfl, bc⟩
            refine hK.out _ _ ⟨ck bc hHeld.1, ck bc hHeld.2.1, ck bc hHeld.2.2.1, ck bc hHeld.2.2.2.1, ck bc hHeld.2.2.2.2.1, ck bc hHeld.2.2.2.2.2.1, ck bc hHeld.2.2.2.2.2.2.1, ck bc hHeld.2.2.2.2.2.2.2.1, ck bc hHeld.2.2.2.2.2.2.2.2.1, ck bc hHeld.2.2.2.2.2.2.2.2.2.1, ck bc hHeld.2.2.2.2.2.2.2.2.2.2.1, ck bc hHeld.2.2.2.2.2.2.2.2.2.2.2⟩ (fun hHeld => ?_)
            clear hK K
            (try simp only [List.setIfInBounds_toArray, List.set_cons_zero, List.set_cons_succ])
            replace k_r := bk bc k_r
            replace k_c := bk bc k_c
            replace k_e := bk bc k_e
            replace k_q := bk bc k_q
            replace k_n18 := bk bc k_n18
            replace bw := bst bc bw
            (try replace r1 := (r1.below bc).more bc.size)
            (try replace r2 := (r2.below bc).more bc.size)
            clear bc
            refine wpAnyH_ready (rs := [13]) (by kernel_rfl) (by simp) ?_
            refine (AllReadyH.cons rfl (fun K hK => ?_) AllReadyH.nil)
            go_simp
            refine (nrgbaWrite_any a b c d N h3 h4 h5 h6 HN.out N cp1 A1 (wrAt (byt N zs) a b c d x y z) x y t _ r1).mono ?_
            rintro e X17 ⟨A2, cp2, rfl, r2, lo2, bc⟩
            refine hK.out _ _ ⟨ck bc hHeld.1, ck bc hHeld.2.1, ck bc hHeld.2.2.1, ck bc hHeld.2.2.2.1, ck bc hHeld.2.2.2.2.1, ck bc hHeld.2.2.2.2.2.1, ck bc hHeld.2.2.2.2.2.2.1, ck bc hHeld.2.2.2.2.2.2.2.1, ck bc hHeld.2.2.2.2.2.2.2.2.1, ck bc hHeld.2.2.2.2.2.2.2.2.2.1, ck bc hHeld.2.2.2.2.2.2.2.2.2.2.1, ck bc hHeld.2.2.2.2.2.2.2.2.2.2.2⟩ (fun hHeld => ?_)
            clear hK K
            (try simp only [List.setIfInBounds_toArray, List.set_cons_zero, List.set_cons_succ])
            have na_r2 := lo_ne (n := N) lo2 k_n18
            replace k_r := bk bc k_r
            replace k_c := bk bc k_c
            replace k_e := bk bc k_e
            replace k_q := bk bc k_q
            replace k_n18 := bk bc k_n18
            replace bw := bst bc bw
            (try replace r1 := (r1.below bc).more bc.size)
            (try replace r2 := (r2.below bc).more bc.size)
            clear bc
            refine wpAnyH_ready (rs := [15]) (by kernel_rfl) (by simp) ?_
            refine (AllReadyH.cons rfl (fun K hK => ?_) AllReadyH.nil)
            have qq := q6c k_n18
            go_simp
            clear qq
            refine hK.out _ _ ⟨(cks ne_q_n18 (cks ne_q_n18 (cks ne_q_n18 (cks ne_q_n18 (cks ne_q_n18 (cks ne_q_n18 hHeld.1)))))), (cks ne_q_n18 (cks ne_q_n18 (cks ne_q_n18 (cks ne_q_n18 (cks ne_q_n18 (cks ne_q_n18 hHeld.2.1)))))), (cks ne_q_n18 (cks ne_q_n18 (cks ne_q_n18 (cks ne_q_n18 (cks ne_q_n18 (cks ne_q_n18 hHeld.2.2.1)))))), (cks ne_q_n18 (cks ne_q_n18 (cks ne_q_n18 (cks ne_q_n18 (cks ne_q_n18 (cks ne_q_n18 hHeld.2.2.2.1)))))), (cks ne_c_n18 (cks ne_c_n18 (cks ne_c_n18 (cks ne_c_n18 (cks ne_c_n18 (cks ne_c_n18 hHeld.2.2.2.2.1)))))), (cks ne_c_n18 (cks ne_c_n18 (cks ne_c_n18 (cks ne_c_n18 (cks ne_c_n18 (cks ne_c_n18 hHeld.2.2.2.2.2.1)))))), (cks ne_c_n18 (cks ne_c_n18 (cks ne_c_n18 (cks ne_c_n18 (cks ne_c_n18 (cks ne_c_n18 hHeld.2.2.2.2.2.2.1)))))), (cks ne_c_n18 (cks ne_c_n18 (cks ne_c_n18 (cks ne_c_n18 (cks ne_c_n18 (cks ne_c_n18 hHeld.2.2.2.2.2.2.2.1)))))), (cks ne_e_n18 (cks ne_e_n18 (cks ne_e_n18 (cks ne_e_n18 (cks ne_e_n18 (cks ne_e_n18 hHeld.2.2.2.2.2.2.2.2.1)))))), (cks ne_e_n18 (cks ne_e_n18 (cks ne_e_n18 (cks ne_e_n18 (cks ne_e_n18 (cks ne_e_n18 hHeld.2.2.2.2.2.2.2.2.2.1)))))), (cks ne_e_n18 (cks ne_e_n18 (cks ne_e_n18 (cks ne_e_n18 (cks ne_e_n18 (cks ne_e_n18 hHeld.2.2.2.2.2.2.2.2.2.2.1)))))), (cks ne_e_n18 (cks ne_e_n18 (cks ne_e_n18 (cks ne_e_n18 (cks ne_e_n18 (cks ne_e_n18 hHeld.2.2.2.2.2.2.2.2.2.2.2))))))⟩ (fun hHeld => ?_)
            clear hK K
            (try simp only [List.setIfInBounds_toArray, List.set_cons_zero, List.set_cons_succ])
            obtain ⟨X18, eY⟩ : ∃ Y, Y = ((((((X17.setCell ⟨g15, 0, none⟩ (.int .i64 a)).setCell ⟨g15, 1, none⟩ (.int .i64 b)).setCell ⟨g15, 2, none⟩ (.int .i64 c)).setCell ⟨g15, 3, none⟩ (.int .i64 d)).setCell ⟨g15, 4, none⟩ (.int .i64 (4 * (c - a)))).setCell ⟨g15, 5, none⟩ (.slice A2 N cp2)) := ⟨_, rfl⟩
            rw [← eY] at hHeld ⊢
            replace k_r : X18.heap[w.heap.size]? = some (.cells #[.int .i64 a, .int .i64 b, .int .i64 c, .int .i64 d] 23 (0, 0)) := by rw [eY]; exact (bks ne_r_n18 (bks ne_r_n18 (bks ne_r_n18 (bks ne_r_n18 (bks ne_r_n18 (bks ne_r_n18 k_r))))))
            replace k_c : X18.heap[w.heap.size + 1]? = some (.cells #[.int .i64 z.a, .int .i64 z.b, .int .i64 z.c, .int .i64 z.d] 44 (0, 0)) := by rw [eY]; exact (bks ne_c_n18 (bks ne_c_n18 (bks ne_c_n18 (bks ne_c_n18 (bks ne_c_n18 (bks ne_c_n18 k_c))))))
            replace k_e : X18.heap[w.heap.size + 2]? = some (.cells #[.int .i64 t.a, .int .i64 t.b, .int .i64 t.c, .int .i64 t.d] 44 (0, 0)) := by rw [eY]; exact (bks ne_e_n18 (bks ne_e_n18 (bks ne_e_n18 (bks ne_e_n18 (bks ne_e_n18 (bks ne_e_n18 k_e))))))
            replace k_q : X18.heap[g_q]? = some (.cells #[.int .i64 a, .int .i64 b, .int .i64 c, .int .i64 d] 25 (0, 0)) := by rw [eY]; exact (bks ne_q_n18 (bks ne_q_n18 (bks ne_q_n18 (bks ne_q_n18 (bks ne_q_n18 (bks ne_q_n18 k_q))))))
            replace bw : Below w.heap.size w X18 := by rw [eY]; exact (bss lo_n18 (bss lo_n18 (bss lo_n18 (bss lo_n18 (bss lo_n18 (bss lo_n18 bw))))))
            replace k_n18 : X18.heap[g15]? = some (.cells #[.int .i64 a, .int .i64 b, .int .i64 c, .int .i64 d, .int .i64 (4 * (c - a)), .slice A2 N cp2] 37 (0, 0)) := by rw [eY]; exact q6s k_n18
            (try replace r1 := Rd.sized (W := X18) (Rd.sset na_r1 (Rd.sset na_r1 (Rd.sset na_r1 (Rd.sset na_r1 (Rd.sset na_r1 (Rd.sset na_r1 r1)))))) eY)
            (try replace r2 := Rd.sized (W := X18) (Rd.sset na_r2 (Rd.sset na_r2 (Rd.sset na_r2 (Rd.sset na_r2 (Rd.sset na_r2 (Rd.sset na_r2 r2)))))) eY)
            clear eY
            refine wpAnyH_done (by kernel_rfl) ?_ _
            go_wp2_with fail
            go_meet
            exact ⟨_, A2, cp2, rfl, k_n18, k_r, k_c, k_e, k_q, r2, bw⟩
        · go_simp
          refine hK.out _ _ ⟨cka hHeld.1, cka hHeld.2.1, cka hHeld.2.2.1, cka hHeld.2.2.2.1, cka hHeld.2.2.2.2.1, cka hHeld.2.2.2.2.2.1, cka hHeld.2.2.2.2.2.2.1, cka hHeld.2.2.2.2.2.2.2.1, cka hHeld.2.2.2.2.2.2.2.2.1, cka hHeld.2.2.2.2.2.2.2.2.2.1, cka hHeld.2.2.2.2.2.2.2.2.2.2.1, cka hHeld.2.2.2.2.2.2.2.2.2.2.2⟩ (fun hHeld => ?_)
          clear hK K
          (try simp only [List.setIfInBounds_toArray, List.set_cons_zero, List.set_cons_succ])
          obtain ⟨X19, g19, eY, eg⟩ : ∃ Y g, Y = X6.alloc (.cells #[.int .i64 0, .int .i64 0, .int .i64 0, .int .i64 0, .int .i64 0, .slice none 0 0] 37) ∧ g = X6.heap.size := ⟨_, _, rfl, rfl⟩
          rw [← eY, ← eg]
          rw [← eY] at hHeld
          have bc : Below X6.heap.size X6 X19 := by rw [eY]; exact (Below.refl _ _).alloc (Nat.le_refl _) _
          have k_n18 : X19.heap[g19]? = some (.cells #[.int .i64 0, .int .i64 0, .int .i64 0, .int .i64 0, .int .i64 0, .slice none 0 0] 37 (0, 0)) := by rw [eY, eg]; exact heap_alloc_new X6 _
          have lo_n18 : w.heap.size ≤ g19 := by rw [eg]; exact bw.size
          have ne_r_n18 : ¬ w.heap.size = g19 := ne_new k_r eg
          have ne_c_n18 : ¬ w.heap.size + 1 = g19 := ne_new k_c eg
          have ne_e_n18 : ¬ w.heap.size + 2 = g19 := ne_new k_e eg
          have ne_q_n18 : ¬ g_q = g19 := ne_new k_q eg
          (try have na_r1 := Rd.ne_new r1 eg)
          (try have na_r2 := Rd.ne_new r2 eg)
          replace k_r := bk bc k_r
          replace k_c := bk bc k_c
          replace k_e := bk bc k_e
          replace k_q := bk bc k_q
          replace bw := bst bc bw
          (try replace r1 := (r1.below bc).more bc.size)
          (try replace r2 := (r2.below bc).more bc.size)
          clear bc eY eg
          refine wpAnyH_ready (rs := [7]) (by kernel_rfl) (by simp) ?_
          refine (AllReadyH.cons rfl (fun K hK => ?_) AllReadyH.nil)
          go_simp
          refine (nrgbaWrite_any a b c d N h3 h4 h5 h6 HN.out n cp Z (zs) x y z _ ((HR.out.below bw).more bw.size)).mono ?_
          rintro e X20 ⟨A1, cp1, rfl, r1, lo1, bc⟩
          refine hK.out _ _ ⟨ck bc hHeld.1, ck bc hHeld.2.1, ck bc hHeld.2.2.1, ck bc hHeld.2.2.2.1, ck bc hHeld.2.2.2.2.1, ck bc hHeld.2.2.2.2.2.1, ck bc hHeld.2.2.2.2.2.2.1, ck bc hHeld.2.2.2.2.2.2.2.1, ck bc hHeld.2.2.2.2.2.2.2.2.1, ck bc hHeld.2.2.2.2.2.2.2.2.2.1, ck bc hHeld.2.2.2.2.2.2.2.2.2.2.1, ck bc hHeld.2.2.2.2.2.2.2.2.2.2.2⟩ (fun hHeld => ?_)
          clear hK K
          (try simp only [List.setIfInBounds_toArray, List.set_cons_zero, List.set_cons_succ])
          have na_r1 := lo_ne (n := N) lo1 k_n18
          replace k_r := bk bc k_r
          replace k_c := bk bc k_c
          replace k_e := bk bc k_e
          replace k_q := bk bc k_q
          replace k_n18 := bk bc k_n18
          replace bw := bst bc bw
          (try replace r1 := (r1.below bc).more bc.size)
          (try replace r2 := (r2.below bc).more bc.size)
          clear bc
          refine takx (i := 8) (D := 46) (v := .slice A1 N cp1) rfl rfl (by kernel_rfl) (by kernel_rfl) (by kernel_rfl) (fun _ _ _ h => h) (Or.inl ⟨by rfl, fun W hSw => by (try dsimp only at hSw); go_simp⟩) (by assumption) ?_
          (try simp only [List.setIfInBounds_toArray, List.set_cons_zero, List.set_cons_succ])
          refine wpAnyH_ready (rs := [12]) (by kernel_rfl) (by simp) ?_
          refine (AllReadyH.cons rfl (fun K hK => ?_) AllReadyH.nil)
          go_simp
          refine (toColor4 t.a t.b t.c t.d _).mono ?_
          rintro e X21 ⟨rfl, bc⟩
          refine hK.out _ _ ⟨ck bc hHeld.1, ck bc hHeld.2.1, ck bc hHeld.2.2.1, ck bc hHeld.2.2.2.1, ck bc hHeld.2.2.2.2.1, ck bc hHeld.2.2.2.2.2.1, ck bc hHeld.2.2.2.2.2.2.1, ck bc hHeld.2.2.2.2.2.2.2.1, ck bc hHeld.2.2.2.2.2.2.2.2.1, ck bc hHeld.2.2.2.2.2.2.2.2.2.1, ck bc hHeld.2.2.2.2.2.2.2.2.2.2.1, ck bc hHeld.2.2.2.2.2.2.2.2.2.2.2⟩ (fun hHeld => ?_)
          clear hK K
          (try simp only [List.setIfInBounds_toArray, List.set_cons_zero, List.set_cons_succ])
          replace k_r := bk bc k_r
          replace k_c := bk bc k_c
          replace k_e := bk bc k_e
          replace k_q := bk bc k_q
          replace k_n18 := bk bc k_n18
          replace bw := bst bc bw
          (try replace r1 := (r1.below bc).more bc.size)
          (try replace r2 := (r2.below bc).more bc.size)
          clear bc
          refine wpAnyH_ready (rs := [13]) (by kernel_rfl) (by simp) ?_
          refine (AllReadyH.cons rfl (fun K hK => ?_) AllReadyH.nil)
          go_simp
          refine (nrgbaWrite_any a b c d N h3 h4 h5 h6 HN.out N cp1 A1 (wrAt (byt N zs) a b c d x y z) x y t _ r1).mono ?_
          rintro e X22 ⟨A2, cp2, rfl, r2, lo2, bc⟩
          refine hK.out _ _ ⟨ck bc hHeld.1, ck bc hHeld.2.1, ck bc hHeld.2.2.1, ck bc hHeld.2.2.2.1, ck bc hHeld.2.2.2.2.1, ck bc hHeld.2.2.2.2.2.1, ck bc hHeld.2.2.2.2.2.2.1, ck bc hHeld.2.2.2.2.2.2.2.1, ck bc hHeld.2.2.2.2.2.2.2.2.1, ck bc hHeld.2.2.2.2.2.2.2.2.2.1, ck bc hHeld.2.2.2.2.2.2.2.2.2.2.1, ck bc hHeld.2.2.2.2.2.2.2.2.2.2.2⟩ (fun hHeld => ?_)
          clear hK K
          (try simp only [List.setIfInBounds_toArray, List.set_cons_zero, List.set_cons_succ])
          have na_r2 := lo_ne (n := N) lo2 k_n18
          replace k_r := bk bc k_r
          replace k_c := bk bc k_c
          replace k_e := bk bc k_e
          replace k_q := bk bc k_q
          replace k_n18 := bk bc k_n18
          replace bw := bst bc bw
          (try replace r1 := (r1.below bc).more bc.size)
          (try replace r2 := (r2.below bc).more bc.size)
          clear bc
          refine wpAnyH_ready (rs := [15]) (by kernel_rfl) (by simp) ?_
          refine (AllReadyH.cons rfl (fun K hK => ?_) AllReadyH.nil)
          have qq := q6c k_n18
          go_simp
          clear qq
          refine hK.out _ _ ⟨(cks ne_q_n18 (cks ne_q_n18 (cks ne_q_n18 (cks ne_q_n18 (cks ne_q_n18 (cks ne_q_n18 hHeld.1)))))), (cks ne_q_n18 (cks ne_q_n18 (cks ne_q_n18 (cks ne_q_n18 (cks ne_q_n18 (cks ne_q_n18 hHeld.2.1)))))), (cks ne_q_n18 (cks ne_q_n18 (cks ne_q_n18 (cks ne_q_n18 (cks ne_q_n18 (cks ne_q_n18 hHeld.2.2.1)))))), (cks ne_q_n18 (cks ne_q_n18 (cks ne_q_n18 (cks ne_q_n18 (cks ne_q_n18 (cks ne_q_n18 hHeld.2.2.2.1)))))), (cks ne_c_n18 (cks ne_c_n18 (cks ne_c_n18 (cks ne_c_n18 (cks ne_c_n18 (cks ne_c_n18 hHeld.2.2.2.2.1)))))), (cks ne_c_n18 (cks ne_c_n18 (cks ne_c_n18 (cks ne_c_n18 (cks ne_c_n18 (cks ne_c_n18 hHeld.2.2.2.2.2.1)))))), (cks ne_c_n18 (cks ne_c_n18 (cks ne_c_n18 (cks ne_c_n18 (cks ne_c_n18 (cks ne_c_n18 hHeld.2.2.2.2.2.2.1)))))), (cks ne_c_n18 (cks ne_c_n18 (cks ne_c_n18 (cks ne_c_n18 (cks ne_c_n18 (cks ne_c_n18 hHeld.2.2.2.2.2.2.2.1)))))), (cks ne_e_n18 (cks ne_e_n18 (cks ne_e_n18 (cks ne_e_n18 (cks ne_e_n18 (cks ne_e_n18 hHeld.2.2.2.2.2.2.2.2.1)))))), (cks ne_e_n18 (cks ne_e_n18 (cks ne_e_n18 (cks ne_e_n18 (cks ne_e_n18 (cks ne_e_n18 hHeld.2.2.2.2.2.2.2.2.2.1)))))), (cks ne_e_n18 (cks ne_e_n18 (cks ne_e_n18 (cks ne_e_n18 (cks ne_e_n18 (cks ne_e_n18 hHeld.2.2.2.2.2.2.2.2.2.2.1)))))), (cks ne_e_n18 (cks ne_e_n18 (cks ne_e_n18 (cks ne_e_n18 (cks ne_e_n18 (cks ne_e_n18 hHeld.2.2.2.2.2.2.2.2.2.2.2))))))⟩ (fun hHeld => ?_)
          clear hK K
          (try simp only [List.setIfInBounds_toArray, List.set_cons_zero, List.set_cons_succ])
          obtain ⟨X23, eY⟩ : ∃ Y, Y = ((((((X22.setCell ⟨g19, 0, none⟩ (.int .i64 a)).setCell ⟨g19, 1, none⟩ (.int .i64 b)).setCell ⟨g19, 2, none⟩ (.int .i64 c)).setCell ⟨g19, 3, none⟩ (.int .i64 d)).setCell ⟨g19, 4, none⟩ (.int .i64 (4 * (c - a)))).setCell ⟨g19, 5, none⟩ (.slice A2 N cp2)) := ⟨_, rfl⟩
          rw [← eY] at hHeld ⊢
          replace k_r : X23.heap[w.heap.size]? = some (.cells #[.int .i64 a, .int .i64 b, .int .i64 c, .int .i64 d] 23 (0, 0)) := by rw [eY]; exact (bks ne_r_n18 (bks ne_r_n18 (bks ne_r_n18 (bks ne_r_n18 (bks ne_r_n18 (bks ne_r_n18 k_r))))))
          replace k_c : X23.heap[w.heap.size + 1]? = some (.cells #[.int .i64 z.a, .int .i64 z.b, .int .i64 z.c, .int .i64 z.d] 44 (0, 0)) := by rw [eY]; exact (bks ne_c_n18 (bks ne_c_n18 (bks ne_c_n18 (bks ne_c_n18 (bks ne_c_n18 (bks ne_c_n18 k_c))))))
          replace k_e : X23.heap[w.heap.size + 2]? = some (.cells #[.int .i64 t.a, .int .i64 t.b, .int .i64 t.c, .int .i64 t.d] 44 (0, 0)) := by rw [eY]; exact (bks ne_e_n18 (bks ne_e_n18 (bks ne_e_n18 (bks ne_e_n18 (bks ne_e_n18 (bks ne_e_n18 k_e))))))
          replace k_q : X23.heap[g_q]? = some (.cells #[.int .i64 a, .int .i64 b, .int .i64 c, .int .i64 d] 25 (0, 0)) := by rw [eY]; exact (bks ne_q_n18 (bks ne_q_n18 (bks ne_q_n18 (bks ne_q_n18 (bks ne_q_n18 (bks ne_q_n18 k_q))))))
          replace bw : Below w.heap.size w X23 := by rw [eY]; exact (bss lo_n18 (bss lo_n18 (bss lo_n18 (bss lo_n18 (bss lo_n18 (bss lo_n18 bw))))))
          replace k_n18 : X23.heap[g19]? = some (.cells #[.int .i64 a, .int .i64 b, .int .i64 c, .int .i64 d, .int .i64 (4 * (c - a)), .slice A2 N cp2] 37 (0, 0)) := by rw [eY]; exact q6s k_n18
          (try replace r1 := Rd.sized (W := X23) (Rd.sset na_r1 (Rd.sset na_r1 (Rd.sset na_r1 (Rd.sset na_r1 (Rd.sset na_r1 (Rd.sset na_r1 r1)))))) eY)
          (try replace r2 := Rd.sized (W := X23) (Rd.sset na_r2 (Rd.sset na_r2 (Rd.sset na_r2 (Rd.sset na_r2 (Rd.sset na_r2 (Rd.sset na_r2 r2)))))) eY)
          clear eY
          refine wpAnyH_done (by kernel_rfl) ?_ _
          go_wp2_with fail
          go_meet
          exact ⟨_, A2, cp2, rfl, k_n18, k_r, k_c, k_e, k_q, r2, bw⟩
      · go_simp
        refine hK.out _ _ ⟨cka hHeld.1, cka hHeld.2.1, cka hHeld.2.2.1, cka hHeld.2.2.2.1, cka hHeld.2.2.2.2.1, cka hHeld.2.2.2.2.2.1, cka hHeld.2.2.2.2.2.2.1, cka hHeld.2.2.2.2.2.2.2.1, cka hHeld.2.2.2.2.2.2.2.2.1, cka hHeld.2.2.2.2.2.2.2.2.2.1, cka hHeld.2.2.2.2.2.2.2.2.2.2.1, cka hHeld.2.2.2.2.2.2.2.2.2.2.2⟩ (fun hHeld => ?_)
        clear hK K
        (try simp only [List.setIfInBounds_toArray, List.set_cons_zero, List.set_cons_succ])
        obtain ⟨X24, g24, eY, eg⟩ : ∃ Y g, Y = X5.alloc (.cells #[.int .i64 0, .int .i64 0, .int .i64 0, .int .i64 0, .int .i64 0, .slice none 0 0] 37) ∧ g = X5.heap.size := ⟨_, _, rfl, rfl⟩
        rw [← eY, ← eg]
        rw [← eY] at hHeld
        have bc : Below X5.heap.size X5 X24 := by rw [eY]; exact (Below.refl _ _).alloc (Nat.le_refl _) _
        have k_n18 : X24.heap[g24]? = some (.cells #[.int .i64 0, .int .i64 0, .int .i64 0, .int .i64 0, .int .i64 0, .slice none 0 0] 37 (0, 0)) := by rw [eY, eg]; exact heap_alloc_new X5 _
        have lo_n18 : w.heap.size ≤ g24 := by rw [eg]; exact bw.size
        have ne_r_n18 : ¬ w.heap.size = g24 := ne_new k_r eg
        have ne_c_n18 : ¬ w.heap.size + 1 = g24 := ne_new k_c eg
        have ne_e_n18 : ¬ w.heap.size + 2 = g24 := ne_new k_e eg
        have ne_q_n18 : ¬ g_q = g24 := ne_new k_q eg
        (try have na_r1 := Rd.ne_new r1 eg)
        (try have na_r2 := Rd.ne_new r2 eg)
        replace k_r := bk bc k_r
        replace k_c := bk bc k_c
        replace k_e := bk bc k_e
        replace k_q := bk bc k_q
        replace bw := bst bc bw
        (try replace r1 := (r1.below bc).more bc.size)
        (try replace r2 := (r2.below bc).more bc.size)
        clear bc eY eg
        refine wpAnyH_ready (rs := [6]) (by kernel_rfl) (by simp) ?_
        refine (AllReadyH.cons rfl (fun K hK => ?_) AllReadyH.nil)
        go_simp
        refine (toColor4 z.a z.b z.c z.d _).mono ?_
        rintro e X25 ⟨rfl, bc⟩
        refine hK.out _ _ ⟨ck bc hHeld.1, ck bc hHeld.2.1, ck bc hHeld.2.2.1, ck bc hHeld.2.2.2.1, ck bc hHeld.2.2.2.2.1, ck bc hHeld.2.2.2.2.2.1, ck bc hHeld.2.2.2.2.2.2.1, ck bc hHeld.2.2.2.2.2.2.2.1, ck bc hHeld.2.2.2.2.2.2.2.2.1, ck bc hHeld.2.2.2.2.2.2.2.2.2.1, ck bc hHeld.2.2.2.2.2.2.2.2.2.2.1, ck bc hHeld.2.2.2.2.2.2.2.2.2.2.2⟩ (fun hHeld => ?_)
        clear hK K
        (try simp only [List.setIfInBounds_toArray, List.set_cons_zero, List.set_cons_succ])
        replace k_r := bk bc k_r
        replace k_c := bk bc k_c
        replace k_e := bk bc k_e
        replace k_q := bk bc k_q
        replace k_n18 := bk bc k_n18
        replace bw := bst bc bw
        (try replace r1 := (r1.below bc).more bc.size)
        (try replace r2 := (r2.below bc).more bc.size)
        clear bc
        refine wpAnyH_ready (rs := [7]) (by kernel_rfl) (by simp) ?_
        refine (AllReadyH.cons rfl (fun K hK => ?_) AllReadyH.nil)
        go_simp
        refine (nrgbaWrite_any a b c d N h3 h4 h5 h6 HN.out n cp Z (zs) x y z _ ((HR.out.below bw).more bw.size)).mono ?_
        rintro e X26 ⟨A1, cp1, rfl, r1, lo1, bc⟩
        refine hK.out _ _ ⟨ck bc hHeld.1, ck bc hHeld.2.1, ck bc hHeld.2.2.1, ck bc hHeld.2.2.2.1, ck bc hHeld.2.2.2.2.1, ck bc hHeld.2.2.2.2.2.1, ck bc hHeld.2.2.2.2.2.2.1, ck bc hHeld.2.2.2.2.2.2.2.1, ck bc hHeld.2.2.2.2.2.2.2.2.1, ck bc hHeld.2.2.2.2.2.2.2.2.2.1, ck bc hHeld.2.2.2.2.2.2.2.2.2.2.1, ck bc hHeld.2.2.2.2.2.2.2.2.2.2.2⟩ (fun hHeld => ?_)
        clear hK K
        (try simp only [List.setIfInBounds_toArray, List.set_cons_zero, List.set_cons_succ])
        have na_r1 := lo_ne (n := N) lo1 k_n18
        replace k_r := bk bc k_r
        replace k_c := bk bc k_c
        replace k_e := bk bc k_e
        replace k_q := bk bc k_q
        replace k_n18 := bk bc k_n18
        replace bw := bst bc bw
        (try replace r1 := (r1.below bc).more bc.size)
        (try replace r2 := (r2.below bc).more bc.size)
        clear bc
        refine takx (i := 8) (D := 46) (v := .slice A1 N cp1) rfl rfl (by kernel_rfl) (by kernel_rfl) (by kernel_rfl) (fun _ _ _ h => h) (Or.inl ⟨by rfl, fun W hSw => by (try dsimp only at hSw); go_simp⟩) (by assumption) ?_
        (try simp only [List.setIfInBounds_toArray, List.set_cons_zero, List.set_cons_succ])
        refine wpAnyH_ready (rs := [12]) (by kernel_rfl) (by simp) ?_
        refine (AllReadyH.cons rfl (fun K hK => ?_) AllReadyH.nil)
        go_simp
        refine (toColor4 t.a t.b t.c t.d _).mono ?_
        rintro e X27 ⟨rfl, bc⟩
        refine hK.out _ _ ⟨ck bc hHeld.1, ck bc hHeld.2.1, ck bc hHeld.2.2.1, ck bc hHeld.2.2.2.1, ck bc hHeld.2.2.2.2.1, ck bc hHeld.2.2.2.2.2.1, ck bc hHeld.2.2.2.2.2.2.1, ck bc hHeld.2.2.2.2.2.2.2.1, ck bc hHeld.2.2.2.2.2.2.2.2.1, ck bc hHeld.2.2.2.2.2.2.2.2.2.1, ck bc hHeld.2.2.2.2.2.2.2.2.2.2.1, ck bc hHeld.2.2.2.2.2.2.2.2.2.2.2⟩ (fun hHeld => ?_)
        clear hK K
        (try simp only [List.setIfInBounds_toArray, List.set_cons_zero, List.set_cons_succ])
        replace k_r := bk bc k_r
        replace k_c := bk bc k_c
        replace k_e := bk bc k_e
        replace k_q := bk bc k_q
        replace k_n18 := bk bc k_n18
        replace bw := bst bc bw
        (try replace r1 := (r1.below bc).more bc.size)
        (try replace r2 := (r2.below bc).more bc.size)
        clear bc
        refine wpAnyH_ready (rs := [13]) (by kernel_rfl) (by simp) ?_
        refine (AllReadyH.cons rfl (fun K hK => ?_) AllReadyH.nil)
        go_simp
        refine (nrgbaWrite_any a b c d N h3 h4 h5 h6 HN.out N cp1 A1 (wrAt (byt N zs) a b c d x y z) x y t _ r1).mono ?_
        rintro e X28 ⟨A2, cp2, rfl, r2, lo2, bc⟩
        refine hK.out _ _ ⟨ck bc hHeld.1, ck bc hHeld.2.1, ck bc hHeld.2.2.1, ck bc hHeld.2.2.2.1, ck bc hHeld.2.2.2.2.1, ck bc hHeld.2.2.2.2.2.1, ck bc hHeld.2.2.2.2.2.2.1, ck bc hHeld.2.2.2.2.2.2.2.1, ck bc hHeld.2.2.2.2.2.2.2.2.1, ck bc hHeld.2.2.2.2.2.2.2.2.2.1, ck bc hHeld.2.2.2.2.2.2.2.2.2.2.1, ck bc hHeld.2.2.2.2.2.2.2.2.2.2.2⟩ (fun hHeld => ?_)
        clear hK K
        (try simp only [List.setIfInBounds_toArray, List.set_cons_zero, List.set_cons_succ])
        have na_r2 := lo_ne (n := N) lo2 k_n18
        replace k_r := bk bc k_r
        replace k_c := bk bc k_c
        replace k_e := bk bc k_e
        replace k_q := bk bc k_q
        replace k_n18 := bk bc k_n18
        replace bw := bst bc bw
        (try replace r1 := (r1.below bc).more bc.size)
        (try replace r2 := (r2.below bc).more bc.size)
        clear bc
        refine wpAnyH_ready (rs := [15]) (by kernel_rfl) (by simp) ?_
        refine (AllReadyH.cons rfl (fun K hK => ?_) AllReadyH.nil)
        have qq := q6c k_n18
        go_simp
        clear qq
        refine hK.out _ _ ⟨(cks ne_q_n18 (cks ne_q_n18 (cks ne_q_n18 (cks ne_q_n18 (cks ne_q_n18 (cks ne_q_n18 hHeld.1)))))), (cks ne_q_n18 (cks ne_q_n18 (cks ne_q_n18 (cks ne_q_n18 (cks ne_q_n18 (cks ne_q_n18 hHeld.2.1)))))), (cks ne_q_n18 (cks ne_q_n18 (cks ne_q_n18 (cks ne_q_n18 (cks ne_q_n18 (cks ne_q_n18 hHeld.2.2.1)))))), (cks ne_q_n18 (cks ne_q_n18 (cks ne_q_n18 (cks ne_q_n18 (cks ne_q_n18 (cks ne_q_n18 hHeld.2.2.2.1)))))), (cks ne_c_n18 (cks ne_c_n18 (cks ne_c_n18 (cks ne_c_n18 (cks ne_c_n18 (cks ne_c_n18 hHeld.2.2.2.2.1)))))), (cks ne_c_n18 (cks ne_c_n18 (cks ne_c_n18 (cks ne_c_n18 (cks ne_c_n18 (cks ne_c_n18 hHeld.2.2.2.2.2.1)))))), (cks ne_c_n18 (cks ne_c_n18 (cks ne_c_n18 (cks ne_c_n18 (cks ne_c_n18 (cks ne_c_n18 hHeld.2.2.2.2.2.2.1)))))), (cks ne_c_n18 (cks ne_c_n18 (cks ne_c_n18 (cks ne_c_n18 (cks ne_c_n18 (cks ne_c_n18 hHeld.2.2.2.2.2.2.2.1)))))), (cks ne_e_n18 (cks ne_e_n18 (cks ne_e_n18 (cks ne_e_n18 (cks ne_e_n18 (cks ne_e_n18 hHeld.2.2.2.2.2.2.2.2.1)))))), (cks ne_e_n18 (cks ne_e_n18 (cks ne_e_n18 (cks ne_e_n18 (cks ne_e_n18 (cks ne_e_n18 hHeld.2.2.2.2.2.2.2.2.2.1)))))), (cks ne_e_n18 (cks ne_e_n18 (cks ne_e_n18 (cks ne_e_n18 (cks ne_e_n18 (cks ne_e_n18 hHeld.2.2.2.2.2.2.2.2.2.2.1)))))), (cks ne_e_n18 (cks ne_e_n18 (cks ne_e_n18 (cks ne_e_n18 (cks ne_e_n18 (cks ne_e_n18 hHeld.2.2.2.2.2.2.2.2.2.2.2))))))⟩ (fun hHeld => ?_)
        clear hK K
        (try simp only [List.setIfInBounds_toArray, List.set_cons_zero, List.set_cons_succ])
        obtain ⟨X29, eY⟩ : ∃ Y, Y = ((((((X28.setCell ⟨g24, 0, none⟩ (.int .i64 a)).setCell ⟨g24, 1, none⟩ (.int .i64 b)).setCell ⟨g24, 2, none⟩ (.int .i64 c)).setCell ⟨g24, 3, none⟩ (.int .i64 d)).setCell ⟨g24, 4, none⟩ (.int .i64 (4 * (c - a)))).setCell ⟨g24, 5, none⟩ (.slice A2 N cp2)) := ⟨_, rfl⟩
        rw [← eY] at hHeld ⊢
        replace k_r : X29.heap[w.heap.size]? = some (.cells #[.int .i64 a, .int .i64 b, .int .i64 c, .int .i64 d] 23 (0, 0)) := by rw [eY]; exact (bks ne_r_n18 (bks ne_r_n18 (bks ne_r_n18 (bks ne_r_n18 (bks ne_r_n18 (bks ne_r_n18 k_r))))))
        replace k_c : X29.heap[w.heap.size + 1]? = some (.cells #[.int .i64 z.a, .int .i64 z.b, .int .i64 z.c, .int .i64 z.d] 44 (0, 0)) := by rw [eY]; exact (bks ne_c_n18 (bks ne_c_n18 (bks ne_c_n18 (bks ne_c_n18 (bks ne_c_n18 (bks ne_c_n18 k_c))))))
        replace k_e : X29.heap[w.heap.size + 2]? = some (.cells #[.int .i64 t.a, .int .i64 t.b, .int .i64 t.c, .int .i64 t.d] 44 (0, 0)) := by rw [eY]; exact (bks ne_e_n18 (bks ne_e_n18 (bks ne_e_n18 (bks ne_e_n18 (bks ne_e_n18 (bks ne_e_n18 k_e))))))
        replace k_q : X29.heap[g_q]? = some (.cells #[.int .i64 a, .int .i64 b, .int .i64 c, .int .i64 d] 25 (0, 0)) := by rw [eY]; exact (bks ne_q_n18 (bks ne_q_n18 (bks ne_q_n18 (bks ne_q_n18 (bks ne_q_n18 (bks ne_q_n18 k_q))))))
        replace bw : Below w.heap.size w X29 := by rw [eY]; exact (bss lo_n18 (bss lo_n18 (bss lo_n18 (bss lo_n18 (bss lo_n18 (bss lo_n18 bw))))))
        replace k_n18 : X29.heap[g24]? = some (.cells #[.int .i64 a, .int .i64 b, .int .i64 c, .int .i64 d, .int .i64 (4 * (c - a)), .slice A2 N cp2] 37 (0, 0)) := by rw [eY]; exact q6s k_n18
        (try replace r1 := Rd.sized (W := X29) (Rd.sset na_r1 (Rd.sset na_r1 (Rd.sset na_r1 (Rd.sset na_r1 (Rd.sset na_r1 (Rd.sset na_r1 r1)))))) eY)
        (try replace r2 := Rd.sized (W := X29) (Rd.sset na_r2 (Rd.sset na_r2 (Rd.sset na_r2 (Rd.sset na_r2 (Rd.sset na_r2 (Rd.sset na_r2 r2)))))) eY)
        clear eY
        refine wpAnyH_done (by kernel_rfl) ?_ _
        go_wp2_with fail
        go_meet
        exact ⟨_, A2, cp2, rfl, k_n18, k_r, k_c, k_e, k_q, r2, bw⟩
    case rest =>
      clear k_r k_c k_e k_q bw
      obtain ⟨g_p, A2, cp2, rfl, k_p, k_r, k_c, k_e, k_q, R2, BW⟩ := hcut
      have bw := BW.out
      clear BW
      have r2 := R2.out
      clear R2
      have q_r := q4c k_r
      have q_c := q4c k_c
      have q_e := q4c k_e
      have q_q := q4c k_q
      have q_p := q6c k_p
      go_upto_region 8 with fail
      clear q_r q_c q_e q_q q_p
      refine wp_region_held_drew (S := fun w' => w'.cell? ⟨g_q, 0, none⟩ = some (.int .i64 a) ∧ w'.cell? ⟨g_q, 1, none⟩ = some (.int .i64 b) ∧ w'.cell? ⟨g_q, 2, none⟩ = some (.int .i64 c) ∧ w'.cell? ⟨g_q, 3, none⟩ = some (.int .i64 d) ∧ w'.cell? ⟨w.heap.size + 1, 0, none⟩ = some (.int .i64 z.a) ∧ w'.cell? ⟨w.heap.size + 1, 1, none⟩ = some (.int .i64 z.b) ∧ w'.cell? ⟨w.heap.size + 1, 2, none⟩ = some (.int .i64 z.c) ∧ w'.cell? ⟨w.heap.size + 1, 3, none⟩ = some (.int .i64 z.d) ∧ w'.cell? ⟨w.heap.size + 2, 0, none⟩ = some (.int .i64 t.a) ∧ w'.cell? ⟨w.heap.size + 2, 1, none⟩ = some (.int .i64 t.b) ∧ w'.cell? ⟨w.heap.size + 2, 2, none⟩ = some (.int .i64 t.c) ∧ w'.cell? ⟨w.heap.size + 2, 3, none⟩ = some (.int .i64 t.d) ∧ w'.cell? ⟨g_p, 0, none⟩ = some (.int .i64 a) ∧ w'.cell? ⟨g_p, 1, none⟩ = some (.int .i64 b) ∧ w'.cell? ⟨g_p, 2, none⟩ = some (.int .i64 c) ∧ w'.cell? ⟨g_p, 3, none⟩ = some (.int .i64 d) ∧ w'.cell? ⟨g_p, 4, none⟩ = some (.int .i64 (4 * (c - a))) ∧ w'.cell? ⟨g_p, 5, none⟩ = some (.slice A2 N cp2)) (by kernel_rfl) ⟨(q4c k_q).1.1, (q4c k_q).1.2.1, (q4c k_q).1.2.2.1, (q4c k_q).1.2.2.2, (q4c k_c).1.1, (q4c k_c).1.2.1, (q4c k_c).1.2.2.1, (q4c k_c).1.2.2.2, (q4c k_e).1.1, (q4c k_e).1.2.1, (q4c k_e).1.2.2.1, (q4c k_e).1.2.2.2, (q6c k_p).1.1, (q6c k_p).1.2.1, (q6c k_p).1.2.2.1, (q6c k_p).1.2.2.2.1, (q6c k_p).1.2.2.2.2.1, (q6c k_p).1.2.2.2.2.2⟩ ?_
      intro hHeld
      obtain ⟨X31, eX, bc⟩ : ∃ X, X = wc.drew ∧ Below wc.heap.size wc X := ⟨_, rfl, (Below.refl _ _).drew⟩
      rw [← eX] at hHeld ⊢
      replace k_r := bk bc k_r
      replace k_c := bk bc k_c
      replace k_e := bk bc k_e
      replace k_q := bk bc k_q
      replace k_p := bk bc k_p
      replace bw := bst bc bw
      (try replace r2 := (r2.below bc).more bc.size)
      (try replace r3 := (r3.below bc).more bc.size)
      (try replace r4 := (r4.below bc).more bc.size)
      clear eX bc
      refine takx (i := 0) (D := 64) (v := .agg #[.int .i64 a, .int .i64 b, .int .i64 c, .int .i64 d, .int .i64 (4 * (c - a)), .slice A2 N cp2]) rfl rfl (by kernel_rfl) (by kernel_rfl) (by kernel_rfl) (fun _ _ _ h => h) (Or.inl ⟨by rfl, fun W hSw => by (try dsimp only at hSw); go_simp⟩) (by assumption) ?_
      (try simp only [List.setIfInBounds_toArray, List.set_cons_zero, List.set_cons_succ])
      refine takx (i := 1) (D := 65) (v := .agg #[.int .i64 a, .int .i64 b, .int .i64 c, .int .i64 d]) rfl rfl (by kernel_rfl) (by kernel_rfl) (by kernel_rfl) (fun _ _ _ h => h) (Or.inl ⟨by rfl, fun W hSw => by (try dsimp only at hSw); go_simp⟩) (by assumption) ?_
      (try simp only [List.setIfInBounds_toArray, List.set_cons_zero, List.set_cons_succ])
      refine takx (i := 2) (D := 66) (v := .slice Z n cp) rfl rfl (by kernel_rfl) (by kernel_rfl) (by kernel_rfl) (fun _ _ _ h => h) (Or.inl ⟨by rfl, fun W hSw => by (try dsimp only at hSw); go_simp⟩) (by assumption) ?_
      (try simp only [List.setIfInBounds_toArray, List.set_cons_zero, List.set_cons_succ])
      refine takx (i := 3) (D := 67) (v := .int .i64 x) rfl rfl (by kernel_rfl) (by kernel_rfl) (by kernel_rfl) (fun _ _ _ h => h) (Or.inl ⟨by rfl, fun W hSw => by (try dsimp only at hSw); go_simp⟩) (by assumption) ?_
      (try simp only [List.setIfInBounds_toArray, List.set_cons_zero, List.set_cons_succ])
      refine takx (i := 4) (D := 68) (v := .int .i64 y) rfl rfl (by kernel_rfl) (by kernel_rfl) (by kernel_rfl) (fun _ _ _ h => h) (Or.inl ⟨by rfl, fun W hSw => by (try dsimp only at hSw); go_simp⟩) (by assumption) ?_
      (try simp only [List.setIfInBounds_toArray, List.set_cons_zero, List.set_cons_succ])
      refine takx (i := 5) (D := 69) (v := .agg #[.int .i64 t.a, .int .i64 t.b, .int .i64 t.c, .int .i64 t.d]) rfl rfl (by kernel_rfl) (by kernel_rfl) (by kernel_rfl) (fun _ _ _ h => h) (Or.inl ⟨by rfl, fun W hSw => by (try dsimp only at hSw); go_simp⟩) (by assumption) ?_
      (try simp only [List.setIfInBounds_toArray, List.set_cons_zero, List.set_cons_succ])
      refine wpAnyH_ready (rs := [6]) (by kernel_rfl) (by simp) ?_
      refine (AllReadyH.cons rfl (fun K hK => ?_) AllReadyH.nil)
      go_simp
      refine (toColor4 t.a t.b t.c t.d _).mono ?_
      rintro e X32 ⟨rfl, bc⟩
      refine hK.out _ _ ⟨ck bc hHeld.1, ck bc hHeld.2.1, ck bc hHeld.2.2.1, ck bc hHeld.2.2.2.1, ck bc hHeld.2.2.2.2.1, ck bc hHeld.2.2.2.2.2.1, ck bc hHeld.2.2.2.2.2.2.1, ck bc hHeld.2.2.2.2.2.2.2.1, ck bc hHeld.2.2.2.2.2.2.2.2.1, ck bc hHeld.2.2.2.2.2.2.2.2.2.1, ck bc hHeld.2.2.2.2.2.2.2.2.2.2.1, ck bc hHeld.2.2.2.2.2.2.2.2.2.2.2.1, ck bc hHeld.2.2.2.2.2.2.2.2.2.2.2.2.1, ck bc hHeld.2.2.2.2.2.2.2.2.2.2.2.2.2.1, ck bc hHeld.2.2.2.2.2.2.2.2.2.2.2.2.2.2.1, ck bc hHeld.2.2.2.2.2.2.2.2.2.2.2.2.2.2.2.1, ck bc hHeld.2.2.2.2.2.2.2.2.2.2.2.2.2.2.2.2.1, ck bc hHeld.2.2.2.2.2.2.2.2.2.2.2.2.2.2.2.2.2⟩ (fun hHeld => ?_)
      clear hK K
      (try simp only [List.setIfInBounds_toArray, List.set_cons_zero, List.set_cons_succ])
      replace k_r := bk bc k_r
      replace k_c := bk bc k_c
      replace k_e := bk bc k_e
      replace k_q := bk bc k_q
      replace k_p := bk bc k_p
      replace bw := bst bc bw
      (try replace r2 := (r2.below bc).more bc.size)
      (try replace r3 := (r3.below bc).more bc.size)
      (try replace r4 := (r4.below bc).more bc.size)
      clear bc
      refine wpAnyH_ready (rs := [7]) (by kernel_rfl) (by simp) ?_
      refine (AllReadyH.cons rfl (fun K hK => ?_) AllReadyH.nil)
      go_simp
      refine (nrgbaWrite_any a b c d N h3 h4 h5 h6 HN.out n cp Z (zs) x y t _ ((HR.out.below bw).more bw.size)).mono ?_
      rintro e X33 ⟨A3, cp3, rfl, r3, lo3, bc⟩
      refine hK.out _ _ ⟨ck bc hHeld.1, ck bc hHeld.2.1, ck bc hHeld.2.2.1, ck bc hHeld.2.2.2.1, ck bc hHeld.2.2.2.2.1, ck bc hHeld.2.2.2.2.2.1, ck bc hHeld.2.2.2.2.2.2.1, ck bc hHeld.2.2.2.2.2.2.2.1, ck bc hHeld.2.2.2.2.2.2.2.2.1, ck bc hHeld.2.2.2.2.2.2.2.2.2.1, ck bc hHeld.2.2.2.2.2.2.2.2.2.2.1, ck bc hHeld.2.2.2.2.2.2.2.2.2.2.2.1, ck bc hHeld.2.2.2.2.2.2.2.2.2.2.2.2.1, ck bc hHeld.2.2.2.2.2.2.2.2.2.2.2.2.2.1, ck bc hHeld.2.2.2.2.2.2.2.2.2.2.2.2.2.2.1, ck bc hHeld.2.2.2.2.2.2.2.2.2.2.2.2.2.2.2.1, ck bc hHeld.2.2.2.2.2.2.2.2.2.2.2.2.2.2.2.2.1, ck bc hHeld.2.2.2.2.2.2.2.2.2.2.2.2.2.2.2.2.2⟩ (fun hHeld => ?_)
      clear hK K
      (try simp only [List.setIfInBounds_toArray, List.set_cons_zero, List.set_cons_succ])
      replace k_r := bk bc k_r
      replace k_c := bk bc k_c
      replace k_e := bk bc k_e
      replace k_q := bk bc k_q
      replace k_p := bk bc k_p
      replace bw := bst bc bw
      (try replace r2 := (r2.below bc).more bc.size)
      (try replace r3 := (r3.below bc).more bc.size)
      (try replace r4 := (r4.below bc).more bc.size)
      clear bc
      refine wpAnyH_ready (rs := [8]) (by kernel_rfl) (by simp) ?_
      refine (AllReadyH.cons rfl (fun K hK => ?_) AllReadyH.nil)
      go_simp
      refine (samePic_true _ _ _ _ _ _ _ _ _ _ (wrAt (byt N zs) a b c d x y t) _ (by have := r2; rw [(byt_self (by rw [wrAt_length, byt_length]) (wrAt_ok (byt_ok _ _))), wr_wr_same] at this; exact this) r3).mono ?_
      rintro e X34 ⟨rfl, bc⟩
      refine hK.out _ _ ⟨ck bc hHeld.1, ck bc hHeld.2.1, ck bc hHeld.2.2.1, ck bc hHeld.2.2.2.1, ck bc hHeld.2.2.2.2.1, ck bc hHeld.2.2.2.2.2.1, ck bc hHeld.2.2.2.2.2.2.1, ck bc hHeld.2.2.2.2.2.2.2.1, ck bc hHeld.2.2.2.2.2.2.2.2.1, ck bc hHeld.2.2.2.2.2.2.2.2.2.1, ck bc hHeld.2.2.2.2.2.2.2.2.2.2.1, ck bc hHeld.2.2.2.2.2.2.2.2.2.2.2.1, ck bc hHeld.2.2.2.2.2.2.2.2.2.2.2.2.1, ck bc hHeld.2.2.2.2.2.2.2.2.2.2.2.2.2.1, ck bc hHeld.2.2.2.2.2.2.2.2.2.2.2.2.2.2.1, ck bc hHeld.2.2.2.2.2.2.2.2.2.2.2.2.2.2.2.1, ck bc hHeld.2.2.2.2.2.2.2.2.2.2.2.2.2.2.2.2.1, ck bc hHeld.2.2.2.2.2.2.2.2.2.2.2.2.2.2.2.2.2⟩ (fun hHeld => ?_)
      clear hK K
      (try simp only [List.setIfInBounds_toArray, List.set_cons_zero, List.set_cons_succ])
      replace k_r := bk bc k_r
      replace k_c := bk bc k_c
      replace k_e := bk bc k_e
      replace k_q := bk bc k_q
      replace k_p := bk bc k_p
      replace bw := bst bc bw
      (try replace r2 := (r2.below bc).more bc.size)
      (try replace r3 := (r3.below bc).more bc.size)
      (try replace r4 := (r4.below bc).more bc.size)
      clear bc
      refine takx (i := 9) (D := 16) (v := .bool true) rfl rfl (by kernel_rfl) (by kernel_rfl) (by kernel_rfl) (fun _ _ _ h => h) (Or.inl ⟨by rfl, fun W hSw => by (try dsimp only at hSw); go_simp⟩) (by assumption) ?_
      (try simp only [List.setIfInBounds_toArray, List.set_cons_zero, List.set_cons_succ])
      refine wpAnyH_done (by kernel_rfl) ?_ _
      clear hHeld
      go_wp2
      go_ret
      exact ⟨rfl, bw⟩
  have HXY := Lib.hid hxy
  by_cases hx1 : x = u
  case pos =>
    have hy1 : ¬ y = v := fun h => hxy ⟨hx1, h⟩
    have t1 : (x == u) = true := by simpa using hx1
    have t2 : (y == v) = false := by simpa using hy1
    clear hxy hx1
    go_enter Try.func13, Try.ntmps13
    go_wp2_with fail
    refine (toRect4 a b c d _).mono ?_
    rintro e w1 ⟨rfl, bc⟩
    have bw := bst bc (bsa (bsa (bsa (Below.refl _ _))))
    have k_r : w1.heap[w.heap.size]? = some (.cells #[.int .i64 a, .int .i64 b, .int .i64 c, .int .i64 d] 23 (0, 0)) := by have := bk bc (bka (bka (heap_alloc_new w _))); simpa using this
    have k_c : w1.heap[w.heap.size + 1]? = some (.cells #[.int .i64 z.a, .int .i64 z.b, .int .i64 z.c, .int .i64 z.d] 44 (0, 0)) := by have := bk bc (bka (heap_alloc_new (w.alloc (.cells #[.int .i64 a, .int .i64 b, .int .i64 c, .int .i64 d] 23)) _)); simpa using this
    have k_e : w1.heap[w.heap.size + 2]? = some (.cells #[.int .i64 t.a, .int .i64 t.b, .int .i64 t.c, .int .i64 t.d] 44 (0, 0)) := by have := bk bc (heap_alloc_new ((w.alloc (.cells #[.int .i64 a, .int .i64 b, .int .i64 c, .int .i64 d] 23)).alloc (.cells #[.int .i64 z.a, .int .i64 z.b, .int .i64 z.c, .int .i64 z.d] 44)) _); simpa using this
    clear bc
    go_upto_region 2 with fail
    obtain ⟨Y1, g_q, eY, eg⟩ : ∃ Y g, Y = w1.alloc (.cells #[.int .i64 a, .int .i64 b, .int .i64 c, .int .i64 d] 25) ∧ g = w1.heap.size := ⟨_, _, rfl, rfl⟩
    rw [← eY, ← eg]
    have bc : Below w1.heap.size w1 Y1 := by rw [eY]; exact (Below.refl _ _).alloc (Nat.le_refl _) _
    have k_q : Y1.heap[g_q]? = some (.cells #[.int .i64 a, .int .i64 b, .int .i64 c, .int .i64 d] 25 (0, 0)) := by rw [eY, eg]; exact heap_alloc_new w1 _
    replace k_r := bk bc k_r
    replace k_c := bk bc k_c
    replace k_e := bk bc k_e
    replace bw := bst bc bw
    clear bc eY eg
    have q_r := q4c k_r
    have q_c := q4c k_c
    have q_e := q4c k_e
    have q_q := q4c k_q
    go_wp2_with fail
    refine (fine_yes a b c d HF.out _).mono ?_
    rintro e Y2 ⟨rfl, bc⟩
    clear q_r q_c q_e q_q
    replace k_r := bk bc k_r
    replace k_c := bk bc k_c
    replace k_e := bk bc k_e
    replace k_q := bk bc k_q
    replace bw := bst bc bw
    clear bc
    have q_r := q4c k_r
    have q_c := q4c k_c
    have q_e := q4c k_e
    have q_q := q4c k_q
    go_wp2_with fail
    refine (has_yes a b c d x y HI.out _).mono ?_
    rintro e Y3 ⟨rfl, bc⟩
    clear q_r q_c q_e q_q
    replace k_r := bk bc k_r
    replace k_c := bk bc k_c
    replace k_e := bk bc k_e
    replace k_q := bk bc k_q
    replace bw := bst bc bw
    clear bc
    have q_r := q4c k_r
    have q_c := q4c k_c
    have q_e := q4c k_e
    have q_q := q4c k_q
    go_wp2_with fail
    refine (has_yes a b c d u v HJ.out _).mono ?_
    rintro e Y4 ⟨rfl, bc⟩
    clear q_r q_c q_e q_q
    replace k_r := bk bc k_r
    replace k_c := bk bc k_c
    replace k_e := bk bc k_e
    replace k_q := bk bc k_q
    replace bw := bst bc bw
    clear bc
    go_upto_region 4 with fail
    go_cut [18] (fun s18 wx => ∃ (g_p : Nat) (A2 : Option Addr) (cp2 : Nat), s18 = .pointer (some ⟨g_p, 0, none⟩) ∧ wx.heap[g_p]? = some (.cells #[.int .i64 a, .int .i64 b, .int .i64 c, .int .i64 d, .int .i64 (4 * (c - a)), .slice A2 N cp2] 37 (0, 0)) ∧ wx.heap[w.heap.size]? = some (.cells #[.int .i64 a, .int .i64 b, .int .i64 c, .int .i64 d] 23 (0, 0)) ∧ wx.heap[w.heap.size + 1]? = some (.cells #[.int .i64 z.a, .int .i64 z.b, .int .i64 z.c, .int .i64 z.d] 44 (0, 0)) ∧ wx.heap[w.heap.size + 2]? = some (.cells #[.int .i64 t.a, .int .i64 t.b, .int .i64 t.c, .int .i64 t.d] 44 (0, 0)) ∧ wx.heap[g_q]? = some (.cells #[.int .i64 a, .int .i64 b, .int .i64 c, .int .i64 d] 25 (0, 0)) ∧ Hid (Rd wx wx.heap.size A2 N (wrAt (byt N (wrAt (byt N zs) a b c d x y z)) a b c d u v t)) ∧ Hid (Below w.heap.size w wx))
    case first =>
      refine wp_region_held_drew (S := fun w' => w'.cell? ⟨g_q, 0, none⟩ = some (.int .i64 a) ∧ w'.cell? ⟨g_q, 1, none⟩ = some (.int .i64 b) ∧ w'.cell? ⟨g_q, 2, none⟩ = some (.int .i64 c) ∧ w'.cell? ⟨g_q, 3, none⟩ = some (.int .i64 d) ∧ w'.cell? ⟨w.heap.size + 1, 0, none⟩ = some (.int .i64 z.a) ∧ w'.cell? ⟨w.heap.size + 1, 1, none⟩ = some (.int .i64 z.b) ∧ w'.cell? ⟨w.heap.size + 1, 2, none⟩ = some (.int .i64 z.c) ∧ w'.cell? ⟨w.heap.size + 1, 3, none⟩ = some (.int .i64 z.d) ∧ w'.cell? ⟨w.heap.size + 2, 0, none⟩ = some (.int .i64 t.a) ∧ w'.cell? ⟨w.heap.size + 2, 1, none⟩ = some (.int .i64 t.b) ∧ w'.cell? ⟨w.heap.size + 2, 2, none⟩ = some (.int .i64 t.c) ∧ w'.cell? ⟨w.heap.size + 2, 3, none⟩ = some (.int .i64 t.d)) (by kernel_rfl) ⟨(q4c k_q).1.1, (q4c k_q).1.2.1, (q4c k_q).1.2.2.1, (q4c k_q).1.2.2.2, (q4c k_c).1.1, (q4c k_c).1.2.1, (q4c k_c).1.2.2.1, (q4c k_c).1.2.2.2, (q4c k_e).1.1, (q4c k_e).1.2.1, (q4c k_e).1.2.2.1, (q4c k_e).1.2.2.2⟩ ?_
      intro hHeld
      obtain ⟨X5, eX, bc⟩ : ∃ X, X = Y4.drew ∧ Below Y4.heap.size Y4 X := ⟨_, rfl, (Below.refl _ _).drew⟩
      rw [← eX] at hHeld ⊢
      replace k_r := bk bc k_r
      replace k_c := bk bc k_c
      replace k_e := bk bc k_e
      replace k_q := bk bc k_q
      replace bw := bst bc bw
      (try replace r1 := (r1.below bc).more bc.size)
      (try replace r2 := (r2.below bc).more bc.size)
      clear eX bc
      refine takx (i := 0) (D := 38) (v := .agg #[.int .i64 a, .int .i64 b, .int .i64 c, .int .i64 d]) rfl rfl (by kernel_rfl) (by kernel_rfl) (by kernel_rfl) (fun _ _ _ h => h) (Or.inl ⟨by rfl, fun W hSw => by (try dsimp only at hSw); go_simp⟩) (by assumption) ?_
      (try simp only [List.setIfInBounds_toArray, List.set_cons_zero, List.set_cons_succ])
      refine takx (i := 1) (D := 39) (v := .agg #[.int .i64 a, .int .i64 b, .int .i64 c, .int .i64 d]) rfl rfl (by kernel_rfl) (by kernel_rfl) (by kernel_rfl) (fun _ _ _ h => h) (Or.inl ⟨by rfl, fun W hSw => by (try dsimp only at hSw); go_simp⟩) (by assumption) ?_
      (try simp only [List.setIfInBounds_toArray, List.set_cons_zero, List.set_cons_succ])
      refine takx (i := 2) (D := 40) (v := .slice Z n cp) rfl rfl (by kernel_rfl) (by kernel_rfl) (by kernel_rfl) (fun _ _ _ h => h) (Or.inl ⟨by rfl, fun W hSw => by (try dsimp only at hSw); go_simp⟩) (by assumption) ?_
      (try simp only [List.setIfInBounds_toArray, List.set_cons_zero, List.set_cons_succ])
      refine takx (i := 3) (D := 41) (v := .int .i64 x) rfl rfl (by kernel_rfl) (by kernel_rfl) (by kernel_rfl) (fun _ _ _ h => h) (Or.inl ⟨by rfl, fun W hSw => by (try dsimp only at hSw); go_simp⟩) (by assumption) ?_
      (try simp only [List.setIfInBounds_toArray, List.set_cons_zero, List.set_cons_succ])
      refine takx (i := 4) (D := 42) (v := .int .i64 y) rfl rfl (by kernel_rfl) (by kernel_rfl) (by kernel_rfl) (fun _ _ _ h => h) (Or.inl ⟨by rfl, fun W hSw => by (try dsimp only at hSw); go_simp⟩) (by assumption) ?_
      (try simp only [List.setIfInBounds_toArray, List.set_cons_zero, List.set_cons_succ])
      refine takx (i := 5) (D := 43) (v := .agg #[.int .i64 z.a, .int .i64 z.b, .int .i64 z.c, .int .i64 z.d]) rfl rfl (by kernel_rfl) (by kernel_rfl) (by kernel_rfl) (fun _ _ _ h => h) (Or.inl ⟨by rfl, fun W hSw => by (try dsimp only at hSw); go_simp⟩) (by assumption) ?_
      (try simp only [List.setIfInBounds_toArray, List.set_cons_zero, List.set_cons_succ])
      refine takx (i := 9) (D := 47) (v := .int .i64 u) rfl rfl (by kernel_rfl) (by kernel_rfl) (by kernel_rfl) (fun _ _ _ h => h) (Or.inl ⟨by rfl, fun W hSw => by (try dsimp only at hSw); go_simp⟩) (by assumption) ?_
      (try simp only [List.setIfInBounds_toArray, List.set_cons_zero, List.set_cons_succ])
      refine takx (i := 10) (D := 48) (v := .int .i64 v) rfl rfl (by kernel_rfl) (by kernel_rfl) (by kernel_rfl) (fun _ _ _ h => h) (Or.inl ⟨by rfl, fun W hSw => by (try dsimp only at hSw); go_simp⟩) (by assumption) ?_
      (try simp only [List.setIfInBounds_toArray, List.set_cons_zero, List.set_cons_succ])
      refine takx (i := 11) (D := 49) (v := .agg #[.int .i64 t.a, .int .i64 t.b, .int .i64 t.c, .int .i64 t.d]) rfl rfl (by kernel_rfl) (by kernel_rfl) (by kernel_rfl) (fun _ _ _ h => h) (Or.inl ⟨by rfl, fun W hSw => by (try dsimp only at hSw); go_simp⟩) (by assumption) ?_
      (try simp only [List.setIfInBounds_toArray, List.set_cons_zero, List.set_cons_succ])
      refine wpAnyH_ready (rs := [6, 14]) (by kernel_rfl) (by simp) ?_
      refine (AllReadyH.cons rfl (fun K hK => ?_) (AllReadyH.cons rfl (fun K hK => ?_) AllReadyH.nil))
      · go_simp
        refine (toColor4 z.a z.b z.c z.d _).mono ?_
        rintro e X6 ⟨rfl, bc⟩
        refine hK.out _ _ ⟨ck bc hHeld.1, ck bc hHeld.2.1, ck bc hHeld.2.2.1, ck bc hHeld.2.2.2.1, ck bc hHeld.2.2.2.2.1, ck bc hHeld.2.2.2.2.2.1, ck bc hHeld.2.2.2.2.2.2.1, ck bc hHeld.2.2.2.2.2.2.2.1, ck bc hHeld.2.2.2.2.2.2.2.2.1, ck bc hHeld.2.2.2.2.2.2.2.2.2.1, ck bc hHeld.2.2.2.2.2.2.2.2.2.2.1, ck bc hHeld.2.2.2.2.2.2.2.2.2.2.2⟩ (fun hHeld => ?_)
        clear hK K
        (try simp only [List.setIfInBounds_toArray, List.set_cons_zero, List.set_cons_succ])
        replace k_r := bk bc k_r
        replace k_c := bk bc k_c
        replace k_e := bk bc k_e
        replace k_q := bk bc k_q
        replace bw := bst bc bw
        (try replace r1 := (r1.below bc).more bc.size)
        (try replace r2 := (r2.below bc).more bc.size)
        clear bc
        refine wpAnyH_ready (rs := [7, 14]) (by kernel_rfl) (by simp) ?_
        refine (AllReadyH.cons rfl (fun K hK => ?_) (AllReadyH.cons rfl (fun K hK => ?_) AllReadyH.nil))
        · go_simp
          refine (nrgbaWrite_any a b c d N h3 h4 h5 h6 HN.out n cp Z (zs) x y z _ ((HR.out.below bw).more bw.size)).mono ?_
          rintro e X7 ⟨A1, cp1, rfl, r1, lo1, bc⟩
          refine hK.out _ _ ⟨ck bc hHeld.1, ck bc hHeld.2.1, ck bc hHeld.2.2.1, ck bc hHeld.2.2.2.1, ck bc hHeld.2.2.2.2.1, ck bc hHeld.2.2.2.2.2.1, ck bc hHeld.2.2.2.2.2.2.1, ck bc hHeld.2.2.2.2.2.2.2.1, ck bc hHeld.2.2.2.2.2.2.2.2.1, ck bc hHeld.2.2.2.2.2.2.2.2.2.1, ck bc hHeld.2.2.2.2.2.2.2.2.2.2.1, ck bc hHeld.2.2.2.2.2.2.2.2.2.2.2⟩ (fun hHeld => ?_)
          clear hK K
          (try simp only [List.setIfInBounds_toArray, List.set_cons_zero, List.set_cons_succ])
          replace k_r := bk bc k_r
          replace k_c := bk bc k_c
          replace k_e := bk bc k_e
          replace k_q := bk bc k_q
          replace bw := bst bc bw
          (try replace r1 := (r1.below bc).more bc.size)
          (try replace r2 := (r2.below bc).more bc.size)
          clear bc
          refine takx (i := 8) (D := 46) (v := .slice A1 N cp1) rfl rfl (by kernel_rfl) (by kernel_rfl) (by kernel_rfl) (fun _ _ _ h => h) (Or.inl ⟨by rfl, fun W hSw => by (try dsimp only at hSw); go_simp⟩) (by assumption) ?_
          (try simp only [List.setIfInBounds_toArray, List.set_cons_zero, List.set_cons_succ])
          refine wpAnyH_ready (rs := [12, 14]) (by kernel_rfl) (by simp) ?_
          refine (AllReadyH.cons rfl (fun K hK => ?_) (AllReadyH.cons rfl (fun K hK => ?_) AllReadyH.nil))
          · go_simp
            refine (toColor4 t.a t.b t.c t.d _).mono ?_
            rintro e X8 ⟨rfl, bc⟩
            refine hK.out _ _ ⟨ck bc hHeld.1, ck bc hHeld.2.1, ck bc hHeld.2.2.1, ck bc hHeld.2.2.2.1, ck bc hHeld.2.2.2.2.1, ck bc hHeld.2.2.2.2.2.1, ck bc hHeld.2.2.2.2.2.2.1, ck bc hHeld.2.2.2.2.2.2.2.1, ck bc hHeld.2.2.2.2.2.2.2.2.1, ck bc hHeld.2.2.2.2.2.2.2.2.2.1, ck bc hHeld.2.2.2.2.2.2.2.2.2.2.1, ck bc hHeld.2.2.2.2.2.2.2.2.2.2.2⟩ (fun hHeld => ?_)
            clear hK K
            (try simp only [List.setIfInBounds_toArray, List.set_cons_zero, List.set_cons_succ])
            replace k_r := bk bc k_r
            replace k_c := bk bc k_c
            replace k_e := bk bc k_e
            replace k_q := bk bc k_q
            replace bw := bst bc bw
            (try replace r1 := (r1.below bc).more bc.size)
            (try replace r2 := (r2.below bc).more bc.size)
            clear bc
            refine wpAnyH_ready (rs := [13, 14]) (by kernel_rfl) (by simp) ?_
            refine (AllReadyH.cons rfl (fun K hK => ?_) (AllReadyH.cons rfl (fun K hK => ?_) AllReadyH.nil))
            · go_simp
              refine (nrgbaWrite_any a b c d N h3 h4 h5 h6 HN.out N cp1 A1 (wrAt (byt N zs) a b c d x y z) u v t _ r1).mono ?_
              rintro e X9 ⟨A2, cp2, rfl, r2, lo2, bc⟩
              refine hK.out _ _ ⟨ck bc hHeld.1, ck bc hHeld.2.1, ck bc hHeld.2.2.1, ck bc hHeld.2.2.2.1, ck bc hHeld.2.2.2.2.1, ck bc hHeld.2.2.2.2.2.1, ck bc hHeld.2.2.2.2.2.2.1, ck bc hHeld.2.2.2.2.2.2.2.1, ck bc hHeld.2.2.2.2.2.2.2.2.1, ck bc hHeld.2.2.2.2.2.2.2.2.2.1, ck bc hHeld.2.2.2.2.2.2.2.2.2.2.1, ck bc hHeld.2.2.2.2.2.2.2.2.2.2.2⟩ (fun hHeld => ?_)
              clear hK K
              (try simp only [List.setIfInBounds_toArray, List.set_cons_zero, List.set_cons_succ])
              replace k_r := bk bc k_r
              replace k_c := bk bc k_c
              replace k_e := bk bc k_e
              replace k_q := bk bc k_q
              replace bw := bst bc bw
              (try replace r1 := (r1.below bc).more bc.size)
              (try replace r2 := (r2.below bc).more bc.size)
              clear bc
              refine wpAnyH_ready (rs := [14]) (by kernel_rfl) (by simp) ?_
              refine (AllReadyH.cons rfl (fun K hK => ?_) AllReadyH.nil)
              go_simp
              refine hK.out _ _ ⟨cka hHeld.1, cka hHeld.2.1, cka hHeld.2.2.1, cka hHeld.2.2.2.1, cka hHeld.2.2.2.2.1, cka hHeld.2.2.2.2.2.1, cka hHeld.2.2.2.2.2.2.1, cka hHeld.2.2.2.2.2.2.2.1, cka hHeld.2.2.2.2.2.2.2.2.1, cka hHeld.2.2.2.2.2.2.2.2.2.1, cka hHeld.2.2.2.2.2.2.2.2.2.2.1, cka hHeld.2.2.2.2.2.2.2.2.2.2.2⟩ (fun hHeld => ?_)
              clear hK K
              (try simp only [List.setIfInBounds_toArray, List.set_cons_zero, List.set_cons_succ])
              obtain ⟨X10, g10, eY, eg⟩ : ∃ Y g, Y = X9.alloc (.cells #[.int .i64 0, .int .i64 0, .int .i64 0, .int .i64 0, .int .i64 0, .slice none 0 0] 37) ∧ g = X9.heap.size := ⟨_, _, rfl, rfl⟩
              rw [← eY, ← eg]
              rw [← eY] at hHeld
              have bc : Below X9.heap.size X9 X10 := by rw [eY]; exact (Below.refl _ _).alloc (Nat.le_refl _) _
              have k_n18 : X10.heap[g10]? = some (.cells #[.int .i64 0, .int .i64 0, .int .i64 0, .int .i64 0, .int .i64 0, .slice none 0 0] 37 (0, 0)) := by rw [eY, eg]; exact heap_alloc_new X9 _
              have lo_n18 : w.heap.size ≤ g10 := by rw [eg]; exact bw.size
              have ne_r_n18 : ¬ w.heap.size = g10 := ne_new k_r eg
              have ne_c_n18 : ¬ w.heap.size + 1 = g10 := ne_new k_c eg
              have ne_e_n18 : ¬ w.heap.size + 2 = g10 := ne_new k_e eg
              have ne_q_n18 : ¬ g_q = g10 := ne_new k_q eg
              (try have na_r1 := Rd.ne_new r1 eg)
              (try have na_r2 := Rd.ne_new r2 eg)
              replace k_r := bk bc k_r
              replace k_c := bk bc k_c
              replace k_e := bk bc k_e
              replace k_q := bk bc k_q
              replace bw := bst bc bw
              (try replace r1 := (r1.below bc).more bc.size)
              (try replace r2 := (r2.below bc).more bc.size)
              clear bc eY eg
              refine wpAnyH_ready (rs := [15]) (by kernel_rfl) (by simp) ?_
              refine (AllReadyH.cons rfl (fun K hK => ?_) AllReadyH.nil)
              have qq := q6c k_n18
              go_simp
              clear qq
              refine hK.out _ _ ⟨(cks ne_q_n18 (cks ne_q_n18 (cks ne_q_n18 (cks ne_q_n18 (cks ne_q_n18 (cks ne_q_n18 hHeld.1)))))), (cks ne_q_n18 (cks ne_q_n18 (cks ne_q_n18 (cks ne_q_n18 (cks ne_q_n18 (cks ne_q_n18 hHeld.2.1)))))), (cks ne_q_n18 (cks ne_q_n18 (cks ne_q_n18 (cks ne_q_n18 (cks ne_q_n18 (cks ne_q_n18 hHeld.2.2.1)))))), (cks ne_q_n18 (cks ne_q_n18 (cks ne_q_n18 (cks ne_q_n18 (cks ne_q_n18 (cks ne_q_n18 hHeld.2.2.2.1)))))), (cks ne_c_n18 (cks ne_c_n18 (cks ne_c_n18 (cks ne_c_n18 (cks ne_c_n18 (cks ne_c_n18 hHeld.2.2.2.2.1)))))), (cks ne_c_n18 (cks ne_c_n18 (cks ne_c_n18 (cks ne_c_n18 (cks ne_c_n18 (cks ne_c_n18 hHeld.2.2.2.2.2.1)))))), (cks ne_c_n18 (cks ne_c_n18 (cks ne_c_n18 (cks ne_c_n18 (cks ne_c_n18 (cks ne_c_n18 hHeld.2.2.2.2.2.2.1)))))), (cks ne_c_n18 (cks ne_c_n18 (cks ne_c_n18 (cks ne_c_n18 (cks ne_c_n18 (cks ne_c_n18 hHeld.2.2.2.2.2.2.2.1)))))), (cks ne_e_n18 (cks ne_e_n18 (cks ne_e_n18 (cks ne_e_n18 (cks ne_e_n18 (cks ne_e_n18 hHeld.2.2.2.2.2.2.2.2.1)))))), (cks ne_e_n18 (cks ne_e_n18 (cks ne_e_n18 (cks ne_e_n18 (cks ne_e_n18 (cks ne_e_n18 hHeld.2.2.2.2.2.2.2.2.2.1)))))), (cks ne_e_n18 (cks ne_e_n18 (cks ne_e_n18 (cks ne_e_n18 (cks ne_e_n18 (cks ne_e_n18 hHeld.2.2.2.2.2.2.2.2.2.2.1)))))), (cks ne_e_n18 (cks ne_e_n18 (cks ne_e_n18 (cks ne_e_n18 (cks ne_e_n18 (cks ne_e_n18 hHeld.2.2.2.2.2.2.2.2.2.2.2))))))⟩ (fun hHeld => ?_)
              clear hK K
              (try simp only [List.setIfInBounds_toArray, List.set_cons_zero, List.set_cons_succ])
              obtain ⟨X11, eY⟩ : ∃ Y, Y = ((((((X10.setCell ⟨g10, 0, none⟩ (.int .i64 a)).setCell ⟨g10, 1, none⟩ (.int .i64 b)).setCell ⟨g10, 2, none⟩ (.int .i64 c)).setCell ⟨g10, 3, none⟩ (.int .i64 d)).setCell ⟨g10, 4, none⟩ (.int .i64 (4 * (c - a)))).setCell ⟨g10, 5, none⟩ (.slice A2 N cp2)) := ⟨_, rfl⟩
              rw [← eY] at hHeld ⊢
              replace k_r : X11.heap[w.heap.size]? = some (.cells #[.int .i64 a, .int .i64 b, .int .i64 c, .int .i64 d] 23 (0, 0)) := by rw [eY]; exact (bks ne_r_n18 (bks ne_r_n18 (bks ne_r_n18 (bks ne_r_n18 (bks ne_r_n18 (bks ne_r_n18 k_r))))))
              replace k_c : X11.heap[w.heap.size + 1]? = some (.cells #[.int .i64 z.a, .int .i64 z.b, .int .i64 z.c, .int .i64 z.d] 44 (0, 0)) := by rw [eY]; exact (bks ne_c_n18 (bks ne_c_n18 (bks ne_c_n18 (bks ne_c_n18 (bks ne_c_n18 (bks ne_c_n18 k_c))))))
              replace k_e : X11.heap[w.heap.size + 2]? = some (.cells #[.int .i64 t.a, .int .i64 t.b, .int .i64 t.c, .int .i64 t.d] 44 (0, 0)) := by rw [eY]; exact (bks ne_e_n18 (bks ne_e_n18 (bks ne_e_n18 (bks ne_e_n18 (bks ne_e_n18 (bks ne_e_n18 k_e))))))
              replace k_q : X11.heap[g_q]? = some (.cells #[.int .i64 a, .int .i64 b, .int .i64 c, .int .i64 d] 25 (0, 0)) := by rw [eY]; exact (bks ne_q_n18 (bks ne_q_n18 (bks ne_q_n18 (bks ne_q_n18 (bks ne_q_n18 (bks ne_q_n18 k_q))))))
              replace bw : Below w.heap.size w X11 := by rw [eY]; exact (bss lo_n18 (bss lo_n18 (bss lo_n18 (bss lo_n18 (bss lo_n18 (bss lo_n18 bw))))))
              replace k_n18 : X11.heap[g10]? = some (.cells #[.int .i64 a, .int .i64 b, .int .i64 c, .int .i64 d, .int .i64 (4 * (c - a)), .slice A2 N cp2] 37 (0, 0)) := by rw [eY]; exact q6s k_n18
              (try replace r1 := Rd.sized (W := X11) (Rd.sset na_r1 (Rd.sset na_r1 (Rd.sset na_r1 (Rd.sset na_r1 (Rd.sset na_r1 (Rd.sset na_r1 r1)))))) eY)
              (try replace r2 := Rd.sized (W := X11) (Rd.sset na_r2 (Rd.sset na_r2 (Rd.sset na_r2 (Rd.sset na_r2 (Rd.sset na_r2 (Rd.sset na_r2 r2)))))) eY)
              clear eY
              refine wpAnyH_done (by kernel_rfl) ?_ _
              go_wp2_with fail
              go_meet
              exact ⟨_, A2, cp2, rfl, k_n18, k_r, k_c, k_e, k_q, r2, bw⟩
            · go_simp
              refine hK.out _ _ ⟨cka hHeld.1, cka hHeld.2.1, cka hHeld.2.2.1, cka hHeld.2.2.2.1, cka hHeld.2.2.2.2.1, cka hHeld.2.2.2.2.2.1, cka hHeld.2.2.2.2.2.2.1, cka hHeld.2.2.2.2.2.2.2.1, cka hHeld.2.2.2.2.2.2.2.2.1, cka hHeld.2.2.2.2.2.2.2.2.2.1, cka hHeld.2.2.2.2.2.2.2.2.2.2.1, cka hHeld.2.2.2.2.2.2.2.2.2.2.2⟩ (fun hHeld => ?_)
              clear hK K
              (try simp only [List.setIfInBounds_toArray, List.set_cons_zero, List.set_cons_succ])
              obtain ⟨X12, g12, eY, eg⟩ : ∃ Y g, Y = X8.alloc (.cells #[.int .i64 0, .int .i64 0, .int .i64 0, .int .i64 0, .int .i64 0, .slice none 0 0] 37) ∧ g = X8.heap.size := ⟨_, _, rfl, rfl⟩
              rw [← eY, ← eg]
              rw [← eY] at hHeld
              have bc : Below X8.heap.size X8 X12 := by rw [eY]; exact (Below.refl _ _).alloc (Nat.le_refl _) _
              have k_n18 : X12.heap[g12]? = some (.cells #[.int .i64 0, .int .i64 0, .int .i64 0, .int .i64 0, .int .i64 0, .slice none 0 0] 37 (0, 0)) := by rw [eY, eg]; exact heap_alloc_new X8 _
              have lo_n18 : w.heap.size ≤ g12 := by rw [eg]; exact bw.size
              have ne_r_n18 : ¬ w.heap.size = g12 := ne_new k_r eg
              have ne_c_n18 : ¬ w.heap.size + 1 = g12 := ne_new k_c eg
              have ne_e_n18 : ¬ w.heap.size + 2 = g12 := ne_new k_e eg
              have ne_q_n18 : ¬ g_q = g12 := ne_new k_q eg
              (try have na_r1 := Rd.ne_new r1 eg)
              (try have na_r2 := Rd.ne_new r2 eg)
              replace k_r := bk bc k_r
              replace k_c := bk bc k_c
              replace k_e := bk bc k_e
              replace k_q := bk bc k_q
              replace bw := bst bc bw
              (try replace r1 := (r1.below bc).more bc.size)
              (try replace r2 := (r2.below bc).more bc.size)
              clear bc eY eg
              refine wpAnyH_ready (rs := [13]) (by kernel_rfl) (by simp) ?_
              refine (AllReadyH.cons rfl (fun K hK => ?_) AllReadyH.nil)
              go_simp
              refine (nrgbaWrite_any a b c d N h3 h4 h5 h6 HN.out N cp1 A1 (wrAt (byt N zs) a b c d x y z) u v t _ r1).mono ?_
              rintro e X13 ⟨A2, cp2, rfl, r2, lo2, bc⟩
              refine hK.out _ _ ⟨ck bc hHeld.1, ck bc hHeld.2.1, ck bc hHeld.2.2.1, ck bc hHeld.2.2.2.1, ck bc hHeld.2.2.2.2.1, ck bc hHeld.2.2.2.2.2.1, ck bc hHeld.2.2.2.2.2.2.1, ck bc hHeld.2.2.2.2.2.2.2.1, ck bc hHeld.2.2.2.2.2.2.2.2.1, ck bc hHeld.2.2.2.2.2.2.2.2.2.1, ck bc hHeld.2.2.2.2.2.2.2.2.2.2.1, ck bc hHeld.2.2.2.2.2.2.2.2.2.2.2⟩ (fun hHeld => ?_)
              clear hK K
              (try simp only [List.setIfInBounds_toArray, List.set_cons_zero, List.set_cons_succ])
              have na_r2 := lo_ne (n := N) lo2 k_n18
              replace k_r := bk bc k_r
              replace k_c := bk bc k_c
              replace k_e := bk bc k_e
              replace k_q := bk bc k_q
              replace k_n18 := bk bc k_n18
              replace bw := bst bc bw
              (try replace r1 := (r1.below bc).more bc.size)
              (try replace r2 := (r2.below bc).more bc.size)
              clear bc
              refine wpAnyH_ready (rs := [15]) (by kernel_rfl) (by simp) ?_
              refine (AllReadyH.cons rfl (fun K hK => ?_) AllReadyH.nil)
              have qq := q6c k_n18
              go_simp
              clear qq
              refine hK.out _ _ ⟨(cks ne_q_n18 (cks ne_q_n18 (cks ne_q_n18 (cks ne_q_n18 (cks ne_q_n18 (cks ne_q_n18 hHeld.1)))))), (cks ne_q_n18 (cks ne_q_n18 (cks ne_q_n18 (cks ne_q_n18 (cks ne_q_n18 (cks ne_q_n18 hHeld.2.1)))))), (cks ne_q_n18 (cks ne_q_n18 (cks ne_q_n18 (cks ne_q_n18 (cks ne_q_n18 (cks ne_q_n18 hHeld.2.2.1)))))), (cks ne_q_n18 (cks ne_q_n18 (cks ne_q_n18 (cks ne_q_n18 (cks ne_q_n18 (cks ne_q_n18 hHeld.2.2.2.1)))))), (cks ne_c_n18 (cks ne_c_n18 (cks ne_c_n18 (cks ne_c_n18 (cks ne_c_n18 (cks ne_c_n18 hHeld.2.2.2.2.1)))))), (cks ne_c_n18 (cks ne_c_n18 (cks ne_c_n18 (cks ne_c_n18 (cks ne_c_n18 (cks ne_c_n18 hHeld.2.2.2.2.2.1)))))), (cks ne_c_n18 (cks ne_c_n18 (cks ne_c_n18 (cks ne_c_n18 (cks ne_c_n18 (cks ne_c_n18 hHeld.2.2.2.2.2.2.1)))))), (cks ne_c_n18 (cks ne_c_n18 (cks ne_c_n18 (cks ne_c_n18 (cks ne_c_n18 (cks ne_c_n18 hHeld.2.2.2.2.2.2.2.1)))))), (cks ne_e_n18 (cks ne_e_n18 (cks ne_e_n18 (cks ne_e_n18 (cks ne_e_n18 (cks ne_e_n18 hHeld.2.2.2.2.2.2.2.2.1)))))), (cks ne_e_n18 (cks ne_e_n18 (cks ne_e_n18 (cks ne_e_n18 (cks ne_e_n18 (cks ne_e_n18 hHeld.2.2.2.2.2.2.2.2.2.1)))))), (cks ne_e_n18 (cks ne_e_n18 (cks ne_e_n18 (cks ne_e_n18 (cks ne_e_n18 (cks ne_e_n18 hHeld.2.2.2.2.2.2.2.2.2.2.1)))))), (cks ne_e_n18 (cks ne_e_n18 (cks ne_e_n18 (cks ne_e_n18 (cks ne_e_n18 (cks ne_e_n18 hHeld.2.2.2.2.2.2.2.2.2.2.2))))))⟩ (fun hHeld => ?_)
              clear hK K
              (try simp only [List.setIfInBounds_toArray, List.set_cons_zero, List.set_cons_succ])
              obtain ⟨X14, eY⟩ : ∃ Y, Y = ((((((X13.setCell ⟨g12, 0, none⟩ (.int .i64 a)).setCell ⟨g12, 1, none⟩ (.int .i64 b)).setCell ⟨g12, 2, none⟩ (.int .i64 c)).setCell ⟨g12, 3, none⟩ (.int .i64 d)).setCell ⟨g12, 4, none⟩ (.int .i64 (4 * (c - a)))).setCell ⟨g12, 5, none⟩ (.slice A2 N cp2)) := ⟨_, rfl⟩
              rw [← eY] at hHeld ⊢
              replace k_r : X14.heap[w.heap.size]? = some (.cells #[.int .i64 a, .int .i64 b, .int .i64 c, .int .i64 d] 23 (0, 0)) := by rw [eY]; exact (bks ne_r_n18 (bks ne_r_n18 (bks ne_r_n18 (bks ne_r_n18 (bks ne_r_n18 (bks ne_r_n18 k_r))))))
              replace k_c : X14.heap[w.heap.size + 1]? = some (.cells #[.int .i64 z.a, .int .i64 z.b, .int .i64 z.c, .int .i64 z.d] 44 (0, 0)) := by rw [eY]; exact (bks ne_c_n18 (bks ne_c_n18 (bks ne_c_n18 (bks ne_c_n18 (bks ne_c_n18 (bks ne_c_n18 k_c))))))
              replace k_e : X14.heap[w.heap.size + 2]? = some (.cells #[.int .i64 t.a, .int .i64 t.b, .int .i64 t.c, .int .i64 t.d] 44 (0, 0)) := by rw [eY]; exact (bks ne_e_n18 (bks ne_e_n18 (bks ne_e_n18 (bks ne_e_n18 (bks ne_e_n18 (bks ne_e_n18 k_e))))))
              replace k_q : X14.heap[g_q]? = some (.cells #[.int .i64 a, .int .i64 b, .int .i64 c, .int .i64 d] 25 (0, 0)) := by rw [eY]; exact (bks ne_q_n18 (bks ne_q_n18 (bks ne_q_n18 (bks ne_q_n18 (bks ne_q_n18 (bks ne_q_n18 k_q))))))
              replace bw : Below w.heap.size w X14 := by rw [eY]; exact (bss lo_n18 (bss lo_n18 (bss lo_n18 (bss lo_n18 (bss lo_n18 (bss lo_n18 bw))))))
              replace k_n18 : X14.heap[g12]? = some (.cells #[.int .i64 a, .int .i64 b, .int .i64 c, .int .i64 d, .int .i64 (4 * (c - a)), .slice A2 N cp2] 37 (0, 0)) := by rw [eY]; exact q6s k_n18
              (try replace r1 := Rd.sized (W := X14) (Rd.sset na_r1 (Rd.sset na_r1 (Rd.sset na_r1 (Rd.sset na_r1 (Rd.sset na_r1 (Rd.sset na_r1 r1)))))) eY)
              (try replace r2 := Rd.sized (W := X14) (Rd.sset na_r2 (Rd.sset na_r2 (Rd.sset na_r2 (Rd.sset na_r2 (Rd.sset na_r2 (Rd.sset na_r2 r2)))))) eY)
              clear eY
              refine wpAnyH_done (by kernel_rfl) ?_ _
              go_wp2_with fail
              go_meet
              exact ⟨_, A2, cp2, rfl, k_n18, k_r, k_c, k_e, k_q, r2, bw⟩
          · go_simp
            refine hK.out _ _ ⟨cka hHeld.1, cka hHeld.2.1, cka hHeld.2.2.1, cka hHeld.2.2.2.1, cka hHeld.2.2.2.2.1, cka hHeld.2.2.2.2.2.1, cka hHeld.2.2.2.2.2.2.1, cka hHeld.2.2.2.2.2.2.2.1, cka hHeld.2.2.2.2.2.2.2.2.1, cka hHeld.2.2.2.2.2.2.2.2.2.1, cka hHeld.2.2.2.2.2.2.2.2.2.2.1, cka hHeld.2.2.2.2.2.2.2.2.2.2.2⟩ (fun hHeld => ?_)
            clear hK K
            (try simp only [List.setIfInBounds_toArray, List.set_cons_zero, List.set_cons_succ])
            obtain ⟨X15, g15, eY, eg⟩ : ∃ Y g, Y = X7.alloc (.cells #[.int .i64 0, .int .i64 0, .int .i64 0, .int .i64 0, .int .i64 0, .slice none 0 0] 37) ∧ g = X7.heap.size := ⟨_, _, rfl, rfl⟩
            rw [← eY, ← eg]
            rw [← eY] at hHeld
            have bc : Below X7.heap.size X7 X15 := by rw [eY]; exact (Below.refl _ _).alloc (Nat.le_refl _) _
            have k_n18 : X15.heap[g15]? = some (.cells #[.int .i64 0, .int .i64 0, .int .i64 0, .int .i64 0, .int .i64 0, .slice none 0 0] 37 (0, 0)) := by rw [eY, eg]; exact heap_alloc_new X7 _
            have lo_n18 : w.heap.size ≤ g15 := by rw [eg]; exact bw.size
            have ne_r_n18 : ¬ w.heap.size = g15 := ne_new k_r eg
            have ne_c_n18 : ¬ w.heap.size + 1 = g15 := ne_new k_c eg
            have ne_e_n18 : ¬ w.heap.size + 2 = g15 := ne_new k_e eg
            have ne_q_n18 : ¬ g_q = g15 := ne_new k_q eg
            (try have na_r1 := Rd.ne_new r1 eg)
            (try have na_r2 := Rd.ne_new r2 eg)
            replace k_r := bk bc k_r
            replace k_c := bk bc k_c
            replace k_e := bk bc k_e
            replace k_q := bk bc k_q
            replace bw := bst bc bw
            (try replace r1 := (r1.below bc).more bc.size)
            (try replace r2 := (r2.below bc).more bc.size)
            clear bc eY eg
            refine wpAnyH_ready (rs := [12]) (by kernel_rfl) (by simp) ?_
            refine (AllReadyH.cons rfl (fun K hK => ?_) AllReadyH.nil)
            go_simp
            refine (toColor4 t.a t.b t.c t.d _).mono ?_
            rintro e X16 ⟨rfl, bc⟩
            refine hK.out _ _ ⟨ck bc hHeld.1, ck bc hHeld.2.1, ck bc hHeld.2.2.1, ck bc hHeld.2.2.2.1, ck bc hHeld.2.2.2.2.1, ck bc hHeld.2.2.2.2.2.1, ck bc hHeld.2.2.2.2.2.2.1, ck bc hHeld.2.2.2.2.2.2.2.1, ck bc hHeld.2.2.2.2.2.2.2.2.1, ck bc hHeld.2.2.2.2.2.2.2.2.2.1, ck bc hHeld.2.2.2.2.2.2.2.2.2.2.1, ck bc hHeld.2.2.2.2.2.2.2.2.2.2.2⟩ (fun hHeld => ?_)
            clear hK K
            (try simp only [List.setIfInBounds_toArray, List.set_cons_zero, List.set_cons_succ])
            replace k_r := bk bc k_r
            replace k_c := bk bc k_c
            replace k_e := bk bc k_e
            replace k_q := bk bc k_q
            replace k_n18 := bk bc k_n18
            replace bw := bst bc bw
            (try replace r1 := (r1.below bc).more bc.size)
            (try replace r2 := (r2.below bc).more bc.size)
            clear bc
            refine wpAnyH_ready (rs := [13]) (by kernel_rfl) (by simp) ?_
            refine (AllReadyH.cons rfl (fun K hK => ?_) AllReadyH.nil)
            go_simp
            refine (nrgbaWrite_any a b c d N h3 h4 h5 h6 HN.out N cp1 A1 (wrAt (byt N zs) a b c d x y z) u v t _ r1).mono ?_
            rintro e X17 ⟨A2, cp2, rfl, r2, lo2, bc⟩
            refine hK.out _ _ ⟨ck bc hHeld.1, ck bc hHeld.2.1, ck bc hHeld.2.2.1, ck bc hHeld.2.2.2.1, ck bc hHeld.2.2.2.2.1, ck bc hHeld.2.2.2.2.2.1, ck bc hHeld.2.2.2.2.2.2.1, ck bc hHeld.2.2.2.2.2.2.2.1, ck bc hHeld.2.2.2.2.2.2.2.2.1, ck bc hHeld.2.2.2.2.2.2.2.2.2.1, ck bc hHeld.2.2.2.2.2.2.2.2.2.2.1, ck bc hHeld.2.2.2.2.2.2.2.2.2.2.2⟩ (fun hHeld => ?_)
            clear hK K
            (try simp only [List.setIfInBounds_toArray, List.set_cons_zero, List.set_cons_succ])
            have na_r2 := lo_ne (n := N) lo2 k_n18
            replace k_r := bk bc k_r
            replace k_c := bk bc k_c
            replace k_e := bk bc k_e
            replace k_q := bk bc k_q
            replace k_n18 := bk bc k_n18
            replace bw := bst bc bw
            (try replace r1 := (r1.below bc).more bc.size)
            (try replace r2 := (r2.below bc).more bc.size)
            clear bc
            refine wpAnyH_ready (rs := [15]) (by kernel_rfl) (by simp) ?_
            refine (AllReadyH.cons rfl (fun K hK => ?_) AllReadyH.nil)
            have qq := q6c k_n18
            go_simp
            clear qq
            refine hK.out _ _ ⟨(cks ne_q_n18 (cks ne_q_n18 (cks ne_q_n18 (cks ne_q_n18 (cks ne_q_n18 (cks ne_q_n18 hHeld.1)))))), (cks ne_q_n18 (cks ne_q_n18 (cks ne_q_n18 (cks ne_q_n18 (cks ne_q_n18 (cks ne_q_n18 hHeld.2.1)))))), (cks ne_q_n18 (cks ne_q_n18 (cks ne_q_n18 (cks ne_q_n18 (cks ne_q_n18 (cks ne_q_n18 hHeld.2.2.1)))))), (cks ne_q_n18 (cks ne_q_n18 (cks ne_q_n18 (cks ne_q_n18 (cks ne_q_n18 (cks ne_q_n18 hHeld.2.2.2.1)))))), (cks ne_c_n18 (cks ne_c_n18 (cks ne_c_n18 (cks ne_c_n18 (cks ne_c_n18 (cks ne_c_n18 hHeld.2.2.2.2.1)))))), (cks ne_c_n18 (cks ne_c_n18 (cks ne_c_n18 (cks ne_c_n18 (cks ne_c_n18 (cks ne_c_n18 hHeld.2.2.2.2.2.1)))))), (cks ne_c_n18 (cks ne_c_n18 (cks ne_c_n18 (cks ne_c_n18 (cks ne_c_n18 (cks ne_c_n18 hHeld.2.2.2.2.2.2.1)))))), (cks ne_c_n18 (cks ne_c_n18 (cks ne_c_n18 (cks ne_c_n18 (cks ne_c_n18 (cks ne_c_n18 hHeld.2.2.2.2.2.2.2.1)))))), (cks ne_e_n18 (cks ne_e_n18 (cks ne_e_n18 (cks ne_e_n18 (cks ne_e_n18 (cks ne_e_n18 hHeld.2.2.2.2.2.2.2.2.1)))))), (cks ne_e_n18 (cks ne_e_n18 (cks ne_e_n18 (cks ne_e_n18 (cks ne_e_n18 (cks ne_e_n18 hHeld.2.2.2.2.2.2.2.2.2.1)))))), (cks ne_e_n18 (cks ne_e_n18 (cks ne_e_n18 (cks ne_e_n18 (cks ne_e_n18 (cks ne_e_n18 hHeld.2.2.2.2.2.2.2.2.2.2.1)))))), (cks ne_e_n18 (cks ne_e_n18 (cks ne_e_n18 (cks ne_e_n18 (cks ne_e_n18 (cks ne_e_n18 hHeld.2.2.2.2.2.2.2.2.2.2.2))))))⟩ (fun hHeld => ?_)
            clear hK K
            (try simp only [List.setIfInBounds_toArray, List.set_cons_zero, List.set_cons_succ])
            obtain ⟨X18, eY⟩ : ∃ Y, Y = ((((((X17.setCell ⟨g15, 0, none⟩ (.int .i64 a)).setCell ⟨g15, 1, none⟩ (.int .i64 b)).setCell ⟨g15, 2, none⟩ (.int .i64 c)).setCell ⟨g15, 3, none⟩ (.int .i64 d)).setCell ⟨g15, 4, none⟩ (.int .i64 (4 * (c - a)))).setCell ⟨g15, 5, none⟩ (.slice A2 N cp2)) := ⟨_, rfl⟩
            rw [← eY] at hHeld ⊢
            replace k_r : X18.heap[w.heap.size]? = some (.cells #[.int .i64 a, .int .i64 b, .int .i64 c, .int .i64 d] 23 (0, 0)) := by rw [eY]; exact (bks ne_r_n18 (bks ne_r_n18 (bks ne_r_n18 (bks ne_r_n18 (bks ne_r_n18 (bks ne_r_n18 k_r))))))
            replace k_c : X18.heap[w.heap.size + 1]? = some (.cells #[.int .i64 z.a, .int .i64 z.b, .int .i64 z.c, .int .i64 z.d] 44 (0, 0)) := by rw [eY]; exact (bks ne_c_n18 (bks ne_c_n18 (bks ne_c_n18 (bks ne_c_n18 (bks ne_c_n18 (bks ne_c_n18 k_c))))))
            replace k_e : X18.heap[w.heap.size + 2]? = some (.cells #[.int .i64 t.a, .int .i64 t.b, .int .i64 t.c, .int .i64 t.d] 44 (0, 0)) := by rw [eY]; exact (bks ne_e_n18 (bks ne_e_n18 (bks ne_e_n18 (bks ne_e_n18 (bks ne_e_n18 (bks ne_e_n18 k_e))))))
            replace k_q : X18.heap[g_q]? = some (.cells #[.int .i64 a, .int .i64 b, .int .i64 c, .int .i64 d] 25 (0, 0)) := by rw [eY]; exact (bks ne_q_n18 (bks ne_q_n18 (bks ne_q_n18 (bks ne_q_n18 (bks ne_q_n18 (bks ne_q_n18 k_q))))))
            replace bw : Below w.heap.size w X18 := by rw [eY]; exact (bss lo_n18 (bss lo_n18 (bss lo_n18 (bss lo_n18 (bss lo_n18 (bss lo_n18 bw))))))
            replace k_n18 : X18.heap[g15]? = some (.cells #[.int .i64 a, .int .i64 b, .int .i64 c, .int .i64 d, .int .i64 (4 * (c - a)), .slice A2 N cp2] 37 (0, 0)) := by rw [eY]; exact q6s k_n18
            (try replace r1 := Rd.sized (W := X18) (Rd.sset na_r1 (Rd.sset na_r1 (Rd.sset na_r1 (Rd.sset na_r1 (Rd.sset na_r1 (Rd.sset na_r1 r1)))))) eY)
            (try replace r2 := Rd.sized (W := X18) (Rd.sset na_r2 (Rd.sset na_r2 (Rd.sset na_r2 (Rd.sset na_r2 (Rd.sset na_r2 (Rd.sset na_r2 r2)))))) eY)
            clear eY
            refine wpAnyH_done (by kernel_rfl) ?_ _
            go_wp2_with fail
            go_meet
            exact ⟨_, A2, cp2, rfl, k_n18, k_r, k_c, k_e, k_q, r2, bw⟩
        · go_simp
          refine hK.out _ _ ⟨cka hHeld.1, cka hHeld.2.1, cka hHeld.2.2.1, cka hHeld.2.2.2.1, cka hHeld.2.2.2.2.1, cka hHeld.2.2.2.2.2.1, cka hHeld.2.2.2.2.2.2.1, cka hHeld.2.2.2.2.2.2.2.1, cka hHeld.2.2.2.2.2.2.2.2.1, cka hHeld.2.2.2.2.2.2.2.2.2.1, cka hHeld.2.2.2.2.2.2.2.2.2.2.1, cka hHeld.2.2.2.2.2.2.2.2.2.2.2⟩ (fun hHeld => ?_)
          clear hK K
          (try simp only [List.setIfInBounds_toArray, List.set_cons_zero, List.set_cons_succ])
          obtain ⟨X19, g19, eY, eg⟩ : ∃ Y g, Y = X6.alloc (.cells #[.int .i64 0, .int .i64 0, .int .i64 0, .int .i64 0, .int .i64 0, .slice none 0 0] 37) ∧ g = X6.heap.size := ⟨_, _, rfl, rfl⟩
          rw [← eY, ← eg]
          rw [← eY] at hHeld
          have bc : Below X6.heap.size X6 X19 := by rw [eY]; exact (Below.refl _ _).alloc (Nat.le_refl _) _
          have k_n18 : X19.heap[g19]? = some (.cells #[.int .i64 0, .int .i64 0, .int .i64 0, .int .i64 0, .int .i64 0, .slice none 0 0] 37 (0, 0)) := by rw [eY, eg]; exact heap_alloc_new X6 _
          have lo_n18 : w.heap.size ≤ g19 := by rw [eg]; exact bw.size
          have ne_r_n18 : ¬ w.heap.size = g19 := ne_new k_r eg
          have ne_c_n18 : ¬ w.heap.size + 1 = g19 := ne_new k_c eg
          have ne_e_n18 : ¬ w.heap.size + 2 = g19 := ne_new k_e eg
          have ne_q_n18 : ¬ g_q = g19 := ne_new k_q eg
          (try have na_r1 := Rd.ne_new r1 eg)
          (try have na_r2 := Rd.ne_new r2 eg)
          replace k_r := bk bc k_r
          replace k_c := bk bc k_c
          replace k_e := bk bc k_e
          replace k_q := bk bc k_q
          replace bw := bst bc bw
          (try replace r1 := (r1.below bc).more bc.size)
          (try replace r2 := (r2.below bc).more bc.size)
          clear bc eY eg
          refine wpAnyH_ready (rs := [7]) (by kernel_rfl) (by simp) ?_
          refine (AllReadyH.cons rfl (fun K hK => ?_) AllReadyH.nil)
          go_simp
          refine (nrgbaWrite_any a b c d N h3 h4 h5 h6 HN.out n cp Z (zs) x y z _ ((HR.out.below bw).more bw.size)).mono ?_
          rintro e X20 ⟨A1, cp1, rfl, r1, lo1, bc⟩
          refine hK.out _ _ ⟨ck bc hHeld.1, ck bc hHeld.2.1, ck bc hHeld.2.2.1, ck bc hHeld.2.2.2.1, ck bc hHeld.2.2.2.2.1, ck bc hHeld.2.2.2.2.2.1, ck bc hHeld.2.2.2.2.2.2.1, ck bc hHeld.2.2.2.2.2.2.2.1, ck bc hHeld.2.2.2.2.2.2.2.2.1, ck bc hHeld.2.2.2.2.2.2.2.2.2.1, ck bc hHeld.2.2.2.2.2.2.2.2.2.2.1, ck bc hHeld.2.2.2.2.2.2.2.2.2.2.2⟩ (fun hHeld => ?_)
          clear hK K
          (try simp only [List.setIfInBounds_toArray, List.set_cons_zero, List.set_cons_succ])
          have na_r1 := lo_ne (n := N) lo1 k_n18
          replace k_r := bk bc k_r
          replace k_c := bk bc k_c
          replace k_e := bk bc k_e
          replace k_q := bk bc k_q
          replace k_n18 := bk bc k_n18
          replace bw := bst bc bw
          (try replace r1 := (r1.below bc).more bc.size)
          (try replace r2 := (r2.below bc).more bc.size)
          clear bc
          refine takx (i := 8) (D := 46) (v := .slice A1 N cp1) rfl rfl (by kernel_rfl) (by kernel_rfl) (by kernel_rfl) (fun _ _ _ h => h) (Or.inl ⟨by rfl, fun W hSw => by (try dsimp only at hSw); go_simp⟩) (by assumption) ?_
          (try simp only [List.setIfInBounds_toArray, List.set_cons_zero, List.set_cons_succ])
          refine wpAnyH_ready (rs := [12]) (by kernel_rfl) (by simp) ?_
          refine (AllReadyH.cons rfl (fun K hK => ?_) AllReadyH.nil)
          go_simp
          refine (toColor4 t.a t.b t.c t.d _).mono ?_
          rintro e X21 ⟨rfl, bc⟩
          refine hK.out _ _ ⟨ck bc hHeld.1, ck bc hHeld.2.1, ck bc hHeld.2.2.1, ck bc hHeld.2.2.2.1, ck bc hHeld.2.2.2.2.1, ck bc hHeld.2.2.2.2.2.1, ck bc hHeld.2.2.2.2.2.2.1, ck bc hHeld.2.2.2.2.2.2.2.1, ck bc hHeld.2.2.2.2.2.2.2.2.1, ck bc hHeld.2.2.2.2.2.2.2.2.2.1, ck bc hHeld.2.2.2.2.2.2.2.2.2.2.1, ck bc hHeld.2.2.2.2.2.2.2.2.2.2.2⟩ (fun hHeld => ?_)
          clear hK K
          (try simp only [List.setIfInBounds_toArray, List.set_cons_zero, List.set_cons_succ])
          replace k_r := bk bc k_r
          replace k_c := bk bc k_c
          replace k_e := bk bc k_e
          replace k_q := bk bc k_q
          replace k_n18 := bk bc k_n18
          replace bw := bst bc bw
          (try replace r1 := (r1.below bc).more bc.size)
          (try replace r2 := (r2.below bc).more bc.size)
          clear bc
          refine wpAnyH_ready (rs := [13]) (by kernel_rfl) (by simp) ?_
          refine (AllReadyH.cons rfl (fun K hK => ?_) AllReadyH.nil)
          go_simp
          refine (nrgbaWrite_any a b c d N h3 h4 h5 h6 HN.out N cp1 A1 (wrAt (byt N zs) a b c d x y z) u v t _ r1).mono ?_
          rintro e X22 ⟨A2, cp2, rfl, r2, lo2, bc⟩
          refine hK.out _ _ ⟨ck bc hHeld.1, ck bc hHeld.2.1, ck bc hHeld.2.2.1, ck bc hHeld.2.2.2.1, ck bc hHeld.2.2.2.2.1, ck bc hHeld.2.2.2.2.2.1, ck bc hHeld.2.2.2.2.2.2.1, ck bc hHeld.2.2.2.2.2.2.2.1, ck bc hHeld.2.2.2.2.2.2.2.2.1, ck bc hHeld.2.2.2.2.2.2.2.2.2.1, ck bc hHeld.2.2.2.2.2.2.2.2.2.2.1, ck bc hHeld.2.2.2.2.2.2.2.2.2.2.2⟩ (fun hHeld => ?_)
          clear hK K
          (try simp only [List.setIfInBounds_toArray, List.set_cons_zero, List.set_cons_succ])
          have na_r2 := lo_ne (n := N) lo2 k_n18
          replace k_r := bk bc k_r
          replace k_c := bk bc k_c
          replace k_e := bk bc k_e
          replace k_q := bk bc k_q
          replace k_n18 := bk bc k_n18
          replace bw := bst bc bw
          (try replace r1 := (r1.below bc).more bc.size)
          (try replace r2 := (r2.below bc).more bc.size)
          clear bc
          refine wpAnyH_ready (rs := [15]) (by kernel_rfl) (by simp) ?_
          refine (AllReadyH.cons rfl (fun K hK => ?_) AllReadyH.nil)
          have qq := q6c k_n18
          go_simp
          clear qq
          refine hK.out _ _ ⟨(cks ne_q_n18 (cks ne_q_n18 (cks ne_q_n18 (cks ne_q_n18 (cks ne_q_n18 (cks ne_q_n18 hHeld.1)))))), (cks ne_q_n18 (cks ne_q_n18 (cks ne_q_n18 (cks ne_q_n18 (cks ne_q_n18 (cks ne_q_n18 hHeld.2.1)))))), (cks ne_q_n18 (cks ne_q_n18 (cks ne_q_n18 (cks ne_q_n18 (cks ne_q_n18 (cks ne_q_n18 hHeld.2.2.1)))))), (cks ne_q_n18 (cks ne_q_n18 (cks ne_q_n18 (cks ne_q_n18 (cks ne_q_n18 (cks ne_q_n18 hHeld.2.2.2.1)))))), (cks ne_c_n18 (cks ne_c_n18 (cks ne_c_n18 (cks ne_c_n18 (cks ne_c_n18 (cks ne_c_n18 hHeld.2.2.2.2.1)))))), (cks ne_c_n18 (cks ne_c_n18 (cks ne_c_n18 (cks ne_c_n18 (cks ne_c_n18 (cks ne_c_n18 hHeld.2.2.2.2.2.1)))))), (cks ne_c_n18 (cks ne_c_n18 (cks ne_c_n18 (cks ne_c_n18 (cks ne_c_n18 (cks ne_c_n18 hHeld.2.2.2.2.2.2.1)))))), (cks ne_c_n18 (cks ne_c_n18 (cks ne_c_n18 (cks ne_c_n18 (cks ne_c_n18 (cks ne_c_n18 hHeld.2.2.2.2.2.2.2.1)))))), (cks ne_e_n18 (cks ne_e_n18 (cks ne_e_n18 (cks ne_e_n18 (cks ne_e_n18 (cks ne_e_n18 hHeld.2.2.2.2.2.2.2.2.1)))))), (cks ne_e_n18 (cks ne_e_n18 (cks ne_e_n18 (cks ne_e_n18 (cks ne_e_n18 (cks ne_e_n18 hHeld.2.2.2.2.2.2.2.2.2.1)))))), (cks ne_e_n18 (cks ne_e_n18 (cks ne_e_n18 (cks ne_e_n18 (cks ne_e_n18 (cks ne_e_n18 hHeld.2.2.2.2.2.2.2.2.2.2.1)))))), (cks ne_e_n18 (cks ne_e_n18 (cks ne_e_n18 (cks ne_e_n18 (cks ne_e_n18 (cks ne_e_n18 hHeld.2.2.2.2.2.2.2.2.2.2.2))))))⟩ (fun hHeld => ?_)
          clear hK K
          (try simp only [List.setIfInBounds_toArray, List.set_cons_zero, List.set_cons_succ])
          obtain ⟨X23, eY⟩ : ∃ Y, Y = ((((((X22.setCell ⟨g19, 0, none⟩ (.int .i64 a)).setCell ⟨g19, 1, none⟩ (.int .i64 b)).setCell ⟨g19, 2, none⟩ (.int .i64 c)).setCell ⟨g19, 3, none⟩ (.int .i64 d)).setCell ⟨g19, 4, none⟩ (.int .i64 (4 * (c - a)))).setCell ⟨g19, 5, none⟩ (.slice A2 N cp2)) := ⟨_, rfl⟩
          rw [← eY] at hHeld ⊢
          replace k_r : X23.heap[w.heap.size]? = some (.cells #[.int .i64 a, .int .i64 b, .int .i64 c, .int .i64 d] 23 (0, 0)) := by rw [eY]; exact (bks ne_r_n18 (bks ne_r_n18 (bks ne_r_n18 (bks ne_r_n18 (bks ne_r_n18 (bks ne_r_n18 k_r))))))
          replace k_c : X23.heap[w.heap.size + 1]? = some (.cells #[.int .i64 z.a, .int .i64 z.b, .int .i64 z.c, .int .i64 z.d] 44 (0, 0)) := by rw [eY]; exact (bks ne_c_n18 (bks ne_c_n18 (bks ne_c_n18 (bks ne_c_n18 (bks ne_c_n18 (bks ne_c_n18 k_c))))))
          replace k_e : X23.heap[w.heap.size + 2]? = some (.cells #[.int .i64 t.a, .int .i64 t.b, .int .i64 t.c, .int .i64 t.d] 44 (0, 0)) := by rw [eY]; exact (bks ne_e_n18 (bks ne_e_n18 (bks ne_e_n18 (bks ne_e_n18 (bks ne_e_n18 (bks ne_e_n18 k_e))))))
          replace k_q : X23.heap[g_q]? = some (.cells #[.int .i64 a, .int .i64 b, .int .i64 c, .int .i64 d] 25 (0, 0)) := by rw [eY]; exact (bks ne_q_n18 (bks ne_q_n18 (bks ne_q_n18 (bks ne_q_n18 (bks ne_q_n18 (bks ne_q_n18 k_q))))))
          replace bw : Below w.heap.size w X23 := by rw [eY]; exact (bss lo_n18 (bss lo_n18 (bss lo_n18 (bss lo_n18 (bss lo_n18 (bss lo_n18 bw))))))
          replace k_n18 : X23.heap[g19]? = some (.cells #[.int .i64 a, .int .i64 b, .int .i64 c, .int .i64 d, .int .i64 (4 * (c - a)), .slice A2 N cp2] 37 (0, 0)) := by rw [eY]; exact q6s k_n18
          (try replace r1 := Rd.sized (W := X23) (Rd.sset na_r1 (Rd.sset na_r1 (Rd.sset na_r1 (Rd.sset na_r1 (Rd.sset na_r1 (Rd.sset na_r1 r1)))))) eY)
          (try replace r2 := Rd.sized (W := X23) (Rd.sset na_r2 (Rd.sset na_r2 (Rd.sset na_r2 (Rd.sset na_r2 (Rd.sset na_r2 (Rd.sset na_r2 r2)))))) eY)
          clear eY
          refine wpAnyH_done (by kernel_rfl) ?_ _
          go_wp2_with fail
          go_meet
          exact ⟨_, A2, cp2, rfl, k_n18, k_r, k_c, k_e, k_q, r2, bw⟩
      · go_simp
        refine hK.out _ _ ⟨cka hHeld.1, cka hHeld.2.1, cka hHeld.2.2.1, cka hHeld.2.2.2.1, cka hHeld.2.2.2.2.1, cka hHeld.2.2.2.2.2.1, cka hHeld.2.2.2.2.2.2.1, cka hHeld.2.2.2.2.2.2.2.1, cka hHeld.2.2.2.2.2.2.2.2.1, cka hHeld.2.2.2.2.2.2.2.2.2.1, cka hHeld.2.2.2.2.2.2.2.2.2.2.1, cka hHeld.2.2.2.2.2.2.2.2.2.2.2⟩ (fun hHeld => ?_)
        clear hK K
        (try simp only [List.setIfInBounds_toArray, List.set_cons_zero, List.set_cons_succ])
        obtain ⟨X24, g24, eY, eg⟩ : ∃ Y g, Y = X5.alloc (.cells #[.int .i64 0, .int .i64 0, .int .i64 0, .int .i64 0, .int .i64 0, .slice none 0 0] 37) ∧ g = X5.heap.size := ⟨_, _, rfl, rfl⟩
        rw [← eY, ← eg]
        rw [← eY] at hHeld
        have bc : Below X5.heap.size X5 X24 := by rw [eY]; exact (Below.refl _ _).alloc (Nat.le_refl _) _
        have k_n18 : X24.heap[g24]? = some (.cells #[.int .i64 0, .int .i64 0, .int .i64 0, .int .i64 0, .int .i64 0, .slice none 0 0] 37 (0, 0)) := by rw [eY, eg]; exact heap_alloc_new X5 _
        have lo_n18 : w.heap.size ≤ g24 := by rw [eg]; exact bw.size
        have ne_r_n18 : ¬ w.heap.size = g24 := ne_new k_r eg
        have ne_c_n18 : ¬ w.heap.size + 1 = g24 := ne_new k_c eg
        have ne_e_n18 : ¬ w.heap.size + 2 = g24 := ne_new k_e eg
        have ne_q_n18 : ¬ g_q = g24 := ne_new k_q eg
        (try have na_r1 := Rd.ne_new r1 eg)
        (try have na_r2 := Rd.ne_new r2 eg)
        replace k_r := bk bc k_r
        replace k_c := bk bc k_c
        replace k_e := bk bc k_e
        replace k_q := bk bc k_q
        replace bw := bst bc bw
        (try replace r1 := (r1.below bc).more bc.size)
        (try replace r2 := (r2.below bc).more bc.size)
        clear bc eY eg
        refine wpAnyH_ready (rs := [6]) (by kernel_rfl) (by simp) ?_
        refine (AllReadyH.cons rfl (fun K hK => ?_) AllReadyH.nil)
        go_simp
        refine (toColor4 z.a z.b z.c z.d _).mono ?_
        rintro e X25 ⟨rfl, bc⟩
        refine hK.out _ _ ⟨ck bc hHeld.1, ck bc hHeld.2.1, ck bc hHeld.2.2.1, ck bc hHeld.2.2.2.1, ck bc hHeld.2.2.2.2.1, ck bc hHeld.2.2.2.2.2.1, ck bc hHeld.2.2.2.2.2.2.1, ck bc hHeld.2.2.2.2.2.2.2.1, ck bc hHeld.2.2.2.2.2.2.2.2.1, ck bc hHeld.2.2.2.2.2.2.2.2.2.1, ck bc hHeld.2.2.2.2.2.2.2.2.2.2.1, ck bc hHeld.2.2.2.2.2.2.2.2.2.2.2⟩ (fun hHeld => ?_)
        clear hK K
        (try simp only [List.setIfInBounds_toArray, List.set_cons_zero, List.set_cons_succ])
        replace k_r := bk bc k_r
        replace k_c := bk bc k_c
        replace k_e := bk bc k_e
        replace k_q := bk bc k_q
        replace k_n18 := bk bc k_n18
        replace bw := bst bc bw
        (try replace r1 := (r1.below bc).more bc.size)
        (try replace r2 := (r2.below bc).more bc.size)
        clear bc
        refine wpAnyH_ready (rs := [7]) (by kernel_rfl) (by simp) ?_
        refine (AllReadyH.cons rfl (fun K hK => ?_) AllReadyH.nil)
        go_simp
        refine (nrgbaWrite_any a b c d N h3 h4 h5 h6 HN.out n cp Z (zs) x y z _ ((HR.out.below bw).more bw.size)).mono ?_
        rintro e X26 ⟨A1, cp1, rfl, r1, lo1, bc⟩
        refine hK.out _ _ ⟨ck bc hHeld.1, ck bc hHeld.2.1, ck bc hHeld.2.2.1, ck bc hHeld.2.2.2.1, ck bc hHeld.2.2.2.2.1, ck bc hHeld.2.2.2.2.2.1, ck bc hHeld.2.2.2.2.2.2.1, ck bc hHeld.2.2.2.2.2.2.2.1, ck bc hHeld.2.2.2.2.2.2.2.2.1, ck bc hHeld.2.2.2.2.2.2.2.2.2.1, ck bc hHeld.2.2.2.2.2.2.2.2.2.2.1, ck bc hHeld.2.2.2.2.2.2.2.2.2.2.2⟩ (fun hHeld => ?_)
        clear hK K
        (try simp only [List.setIfInBounds_toArray, List.set_cons_zero, List.set_cons_succ])
        have na_r1 := lo_ne (n := N) lo1 k_n18
        replace k_r := bk bc k_r
        replace k_c := bk bc k_c
        replace k_e := bk bc k_e
        replace k_q := bk bc k_q
        replace k_n18 := bk bc k_n18
        replace bw := bst bc bw
        (try replace r1 := (r1.below bc).more bc.size)
        (try replace r2 := (r2.below bc).more bc.size)
        clear bc
        refine takx (i := 8) (D := 46) (v := .slice A1 N cp1) rfl rfl (by kernel_rfl) (by kernel_rfl) (by kernel_rfl) (fun _ _ _ h => h) (Or.inl ⟨by rfl, fun W hSw => by (try dsimp only at hSw); go_simp⟩) (by assumption) ?_
        (try simp only [List.setIfInBounds_toArray, List.set_cons_zero, List.set_cons_succ])
        refine wpAnyH_ready (rs := [12]) (by kernel_rfl) (by simp) ?_
        refine (AllReadyH.cons rfl (fun K hK => ?_) AllReadyH.nil)
        go_simp
        refine (toColor4 t.a t.b t.c t.d _).mono ?_
        rintro e X27 ⟨rfl, bc⟩
        refine hK.out _ _ ⟨ck bc hHeld.1, ck bc hHeld.2.1, ck bc hHeld.2.2.1, ck bc hHeld.2.2.2.1, ck bc hHeld.2.2.2.2.1, ck bc hHeld.2.2.2.2.2.1, ck bc hHeld.2.2.2.2.2.2.1, ck bc hHeld.2.2.2.2.2.2.2.1, ck bc hHeld.2.2.2.2.2.2.2.2.1, ck bc hHeld.2.2.2.2.2.2.2.2.2.1, ck bc hHeld.2.2.2.2.2.2.2.2.2.2.1, ck bc hHeld.2.2.2.2.2.2.2.2.2.2.2⟩ (fun hHeld => ?_)
        clear hK K
        (try simp only [List.setIfInBounds_toArray, List.set_cons_zero, List.set_cons_succ])
        replace k_r := bk bc k_r
        replace k_c := bk bc k_c
        replace k_e := bk bc k_e
        replace k_q := bk bc k_q
        replace k_n18 := bk bc k_n18
        replace bw := bst bc bw
        (try replace r1 := (r1.below bc).more bc.size)
        (try replace r2 := (r2.below bc).more bc.size)
        clear bc
        refine wpAnyH_ready (rs := [13]) (by kernel_rfl) (by simp) ?_
        refine (AllReadyH.cons rfl (fun K hK => ?_) AllReadyH.nil)
        go_simp
        refine (nrgbaWrite_any a b c d N h3 h4 h5 h6 HN.out N cp1 A1 (wrAt (byt N zs) a b c d x y z) u v t _ r1).mono ?_
        rintro e X28 ⟨A2, cp2, rfl, r2, lo2, bc⟩
        refine hK.out _ _ ⟨ck bc hHeld.1, ck bc hHeld.2.1, ck bc hHeld.2.2.1, ck bc hHeld.2.2.2.1, ck bc hHeld.2.2.2.2.1, ck bc hHeld.2.2.2.2.2.1, ck bc hHeld.2.2.2.2.2.2.1, ck bc hHeld.2.2.2.2.2.2.2.1, ck bc hHeld.2.2.2.2.2.2.2.2.1, ck bc hHeld.2.2.2.2.2.2.2.2.2.1, ck bc hHeld.2.2.2.2.2.2.2.2.2.2.1, ck bc hHeld.2.2.2.2.2.2.2.2.2.2.2⟩ (fun hHeld => ?_)
        clear hK K
        (try simp only [List.setIfInBounds_toArray, List.set_cons_zero, List.set_cons_succ])
        have na_r2 := lo_ne (n := N) lo2 k_n18
        replace k_r := bk bc k_r
        replace k_c := bk bc k_c
        replace k_e := bk bc k_e
        replace k_q := bk bc k_q
        replace k_n18 := bk bc k_n18
        replace bw := bst bc bw
        (try replace r1 := (r1.below bc).more bc.size)
        (try replace r2 := (r2.below bc).more bc.size)
        clear bc
        refine wpAnyH_ready (rs := [15]) (by kernel_rfl) (by simp) ?_
        refine (AllReadyH.cons rfl (fun K hK => ?_) AllReadyH.nil)
        have qq := q6c k_n18
        go_simp
        clear qq
        refine hK.out _ _ ⟨(cks ne_q_n18 (cks ne_q_n18 (cks ne_q_n18 (cks ne_q_n18 (cks ne_q_n18 (cks ne_q_n18 hHeld.1)))))), (cks ne_q_n18 (cks ne_q_n18 (cks ne_q_n18 (cks ne_q_n18 (cks ne_q_n18 (cks ne_q_n18 hHeld.2.1)))))), (cks ne_q_n18 (cks ne_q_n18 (cks ne_q_n18 (cks ne_q_n18 (cks ne_q_n18 (cks ne_q_n18 hHeld.2.2.1)))))), (cks ne_q_n18 (cks ne_q_n18 (cks ne_q_n18 (cks ne_q_n18 (cks ne_q_n18 (cks ne_q_n18 hHeld.2.2.2.1)))))), (cks ne_c_n18 (cks ne_c_n18 (cks ne_c_n18 (cks ne_c_n18 (cks ne_c_n18 (cks ne_c_n18 hHeld.2.2.2.2.1)))))), (cks ne_c_n18 (cks ne_c_n18 (cks ne_c_n18 (cks ne_c_n18 (cks ne_c_n18 (cks ne_c_n18 hHeld.2.2.2.2.2.1)))))), (cks ne_c_n18 (cks ne_c_n18 (cks ne_c_n18 (cks ne_c_n18 (cks ne_c_n18 (cks ne_c_n18 hHeld.2.2.2.2.2.2.1)))))), (cks ne_c_n18 (cks ne_c_n18 (cks ne_c_n18 (cks ne_c_n18 (cks ne_c_n18 (cks ne_c_n18 hHeld.2.2.2.2.2.2.2.1)))))), (cks ne_e_n18 (cks ne_e_n18 (cks ne_e_n18 (cks ne_e_n18 (cks ne_e_n18 (cks ne_e_n18 hHeld.2.2.2.2.2.2.2.2.1)))))), (cks ne_e_n18 (cks ne_e_n18 (cks ne_e_n18 (cks ne_e_n18 (cks ne_e_n18 (cks ne_e_n18 hHeld.2.2.2.2.2.2.2.2.2.1)))))), (cks ne_e_n18 (cks ne_e_n18 (cks ne_e_n18 (cks ne_e_n18 (cks ne_e_n18 (cks ne_e_n18 hHeld.2.2.2.2.2.2.2.2.2.2.1)))))), (cks ne_e_n18 (cks ne_e_n18 (cks ne_e_n18 (cks ne_e_n18 (cks ne_e_n18 (cks ne_e_n18 hHeld.2.2.2.2.2.2.2.2.2.2.2))))))⟩ (fun hHeld => ?_)
        clear hK K
        (try simp only [List.setIfInBounds_toArray, List.set_cons_zero, List.set_cons_succ])
        obtain ⟨X29, eY⟩ : ∃ Y, Y = ((((((X28.setCell ⟨g24, 0, none⟩ (.int .i64 a)).setCell ⟨g24, 1, none⟩ (.int .i64 b)).setCell ⟨g24, 2, none⟩ (.int .i64 c)).setCell ⟨g24, 3, none⟩ (.int .i64 d)).setCell ⟨g24, 4, none⟩ (.int .i64 (4 * (c - a)))).setCell ⟨g24, 5, none⟩ (.slice A2 N cp2)) := ⟨_, rfl⟩
        rw [← eY] at hHeld ⊢
        replace k_r : X29.heap[w.heap.size]? = some (.cells #[.int .i64 a, .int .i64 b, .int .i64 c, .int .i64 d] 23 (0, 0)) := by rw [eY]; exact (bks ne_r_n18 (bks ne_r_n18 (bks ne_r_n18 (bks ne_r_n18 (bks ne_r_n18 (bks ne_r_n18 k_r))))))
        replace k_c : X29.heap[w.heap.size + 1]? = some (.cells #[.int .i64 z.a, .int .i64 z.b, .int .i64 z.c, .int .i64 z.d] 44 (0, 0)) := by rw [eY]; exact (bks ne_c_n18 (bks ne_c_n18 (bks ne_c_n18 (bks ne_c_n18 (bks ne_c_n18 (bks ne_c_n18 k_c))))))
        replace k_e : X29.heap[w.heap.size + 2]? = some (.cells #[.int .i64 t.a, .int .i64 t.b, .int .i64 t.c, .int .i64 t.d] 44 (0, 0)) := by rw [eY]; exact (bks ne_e_n18 (bks ne_e_n18 (bks ne_e_n18 (bks ne_e_n18 (bks ne_e_n18 (bks ne_e_n18 k_e))))))
        replace k_q : X29.heap[g_q]? = some (.cells #[.int .i64 a, .int .i64 b, .int .i64 c, .int .i64 d] 25 (0, 0)) := by rw [eY]; exact (bks ne_q_n18 (bks ne_q_n18 (bks ne_q_n18 (bks ne_q_n18 (bks ne_q_n18 (bks ne_q_n18 k_q))))))
        replace bw : Below w.heap.size w X29 := by rw [eY]; exact (bss lo_n18 (bss lo_n18 (bss lo_n18 (bss lo_n18 (bss lo_n18 (bss lo_n18 bw))))))
        replace k_n18 : X29.heap[g24]? = some (.cells #[.int .i64 a, .int .i64 b, .int .i64 c, .int .i64 d, .int .i64 (4 * (c - a)), .slice A2 N cp2] 37 (0, 0)) := by rw [eY]; exact q6s k_n18
        (try replace r1 := Rd.sized (W := X29) (Rd.sset na_r1 (Rd.sset na_r1 (Rd.sset na_r1 (Rd.sset na_r1 (Rd.sset na_r1 (Rd.sset na_r1 r1)))))) eY)
        (try replace r2 := Rd.sized (W := X29) (Rd.sset na_r2 (Rd.sset na_r2 (Rd.sset na_r2 (Rd.sset na_r2 (Rd.sset na_r2 (Rd.sset na_r2 r2)))))) eY)
        clear eY
        refine wpAnyH_done (by kernel_rfl) ?_ _
        go_wp2_with fail
        go_meet
        exact ⟨_, A2, cp2, rfl, k_n18, k_r, k_c, k_e, k_q, r2, bw⟩
    case rest =>
      clear k_r k_c k_e k_q bw
      obtain ⟨g_p, A2, cp2, rfl, k_p, k_r, k_c, k_e, k_q, R2, BW⟩ := hcut
      have bw := BW.out
      clear BW
      have r2 := R2.out
      clear R2
      have q_r := q4c k_r
      have q_c := q4c k_c
      have q_e := q4c k_e
      have q_q := q4c k_q
      have q_p := q6c k_p
      go_upto_region 9 with fail
      clear q_r q_c q_e q_q q_p
      refine wp_region_held_drew (S := fun w' => w'.cell? ⟨g_q, 0, none⟩ = some (.int .i64 a) ∧ w'.cell? ⟨g_q, 1, none⟩ = some (.int .i64 b) ∧ w'.cell? ⟨g_q, 2, none⟩ = some (.int .i64 c) ∧ w'.cell? ⟨g_q, 3, none⟩ = some (.int .i64 d) ∧ w'.cell? ⟨w.heap.size + 1, 0, none⟩ = some (.int .i64 z.a) ∧ w'.cell? ⟨w.heap.size + 1, 1, none⟩ = some (.int .i64 z.b) ∧ w'.cell? ⟨w.heap.size + 1, 2, none⟩ = some (.int .i64 z.c) ∧ w'.cell? ⟨w.heap.size + 1, 3, none⟩ = some (.int .i64 z.d) ∧ w'.cell? ⟨w.heap.size + 2, 0, none⟩ = some (.int .i64 t.a) ∧ w'.cell? ⟨w.heap.size + 2, 1, none⟩ = some (.int .i64 t.b) ∧ w'.cell? ⟨w.heap.size + 2, 2, none⟩ = some (.int .i64 t.c) ∧ w'.cell? ⟨w.heap.size + 2, 3, none⟩ = some (.int .i64 t.d) ∧ w'.cell? ⟨g_p, 0, none⟩ = some (.int .i64 a) ∧ w'.cell? ⟨g_p, 1, none⟩ = some (.int .i64 b) ∧ w'.cell? ⟨g_p, 2, none⟩ = some (.int .i64 c) ∧ w'.cell? ⟨g_p, 3, none⟩ = some (.int .i64 d) ∧ w'.cell? ⟨g_p, 4, none⟩ = some (.int .i64 (4 * (c - a))) ∧ w'.cell? ⟨g_p, 5, none⟩ = some (.slice A2 N cp2)) (by kernel_rfl) ⟨(q4c k_q).1.1, (q4c k_q).1.2.1, (q4c k_q).1.2.2.1, (q4c k_q).1.2.2.2, (q4c k_c).1.1, (q4c k_c).1.2.1, (q4c k_c).1.2.2.1, (q4c k_c).1.2.2.2, (q4c k_e).1.1, (q4c k_e).1.2.1, (q4c k_e).1.2.2.1, (q4c k_e).1.2.2.2, (q6c k_p).1.1, (q6c k_p).1.2.1, (q6c k_p).1.2.2.1, (q6c k_p).1.2.2.2.1, (q6c k_p).1.2.2.2.2.1, (q6c k_p).1.2.2.2.2.2⟩ ?_
      intro hHeld
      obtain ⟨X31, eX, bc⟩ : ∃ X, X = wc.drew ∧ Below wc.heap.size wc X := ⟨_, rfl, (Below.refl _ _).drew⟩
      rw [← eX] at hHeld ⊢
      replace k_r := bk bc k_r
      replace k_c := bk bc k_c
      replace k_e := bk bc k_e
      replace k_q := bk bc k_q
      replace k_p := bk bc k_p
      replace bw := bst bc bw
      (try replace r2 := (r2.below bc).more bc.size)
      (try replace r3 := (r3.below bc).more bc.size)
      (try replace r4 := (r4.below bc).more bc.size)
      clear eX bc
      refine takx (i := 0) (D := 73) (v := .agg #[.int .i64 a, .int .i64 b, .int .i64 c, .int .i64 d, .int .i64 (4 * (c - a)), .slice A2 N cp2]) rfl rfl (by kernel_rfl) (by kernel_rfl) (by kernel_rfl) (fun _ _ _ h => h) (Or.inl ⟨by rfl, fun W hSw => by (try dsimp only at hSw); go_simp⟩) (by assumption) ?_
      (try simp only [List.setIfInBounds_toArray, List.set_cons_zero, List.set_cons_succ])
      refine takx (i := 1) (D := 74) (v := .agg #[.int .i64 a, .int .i64 b, .int .i64 c, .int .i64 d]) rfl rfl (by kernel_rfl) (by kernel_rfl) (by kernel_rfl) (fun _ _ _ h => h) (Or.inl ⟨by rfl, fun W hSw => by (try dsimp only at hSw); go_simp⟩) (by assumption) ?_
      (try simp only [List.setIfInBounds_toArray, List.set_cons_zero, List.set_cons_succ])
      refine takx (i := 2) (D := 75) (v := .agg #[.int .i64 a, .int .i64 b, .int .i64 c, .int .i64 d]) rfl rfl (by kernel_rfl) (by kernel_rfl) (by kernel_rfl) (fun _ _ _ h => h) (Or.inl ⟨by rfl, fun W hSw => by (try dsimp only at hSw); go_simp⟩) (by assumption) ?_
      (try simp only [List.setIfInBounds_toArray, List.set_cons_zero, List.set_cons_succ])
      refine takx (i := 3) (D := 76) (v := .slice Z n cp) rfl rfl (by kernel_rfl) (by kernel_rfl) (by kernel_rfl) (fun _ _ _ h => h) (Or.inl ⟨by rfl, fun W hSw => by (try dsimp only at hSw); go_simp⟩) (by assumption) ?_
      (try simp only [List.setIfInBounds_toArray, List.set_cons_zero, List.set_cons_succ])
      refine takx (i := 4) (D := 77) (v := .int .i64 u) rfl rfl (by kernel_rfl) (by kernel_rfl) (by kernel_rfl) (fun _ _ _ h => h) (Or.inl ⟨by rfl, fun W hSw => by (try dsimp only at hSw); go_simp⟩) (by assumption) ?_
      (try simp only [List.setIfInBounds_toArray, List.set_cons_zero, List.set_cons_succ])
      refine takx (i := 5) (D := 78) (v := .int .i64 v) rfl rfl (by kernel_rfl) (by kernel_rfl) (by kernel_rfl) (fun _ _ _ h => h) (Or.inl ⟨by rfl, fun W hSw => by (try dsimp only at hSw); go_simp⟩) (by assumption) ?_
      (try simp only [List.setIfInBounds_toArray, List.set_cons_zero, List.set_cons_succ])
      refine takx (i := 6) (D := 79) (v := .agg #[.int .i64 t.a, .int .i64 t.b, .int .i64 t.c, .int .i64 t.d]) rfl rfl (by kernel_rfl) (by kernel_rfl) (by kernel_rfl) (fun _ _ _ h => h) (Or.inl ⟨by rfl, fun W hSw => by (try dsimp only at hSw); go_simp⟩) (by assumption) ?_
      (try simp only [List.setIfInBounds_toArray, List.set_cons_zero, List.set_cons_succ])
      refine takx (i := 10) (D := 83) (v := .int .i64 x) rfl rfl (by kernel_rfl) (by kernel_rfl) (by kernel_rfl) (fun _ _ _ h => h) (Or.inl ⟨by rfl, fun W hSw => by (try dsimp only at hSw); go_simp⟩) (by assumption) ?_
      (try simp only [List.setIfInBounds_toArray, List.set_cons_zero, List.set_cons_succ])
      refine takx (i := 11) (D := 84) (v := .int .i64 y) rfl rfl (by kernel_rfl) (by kernel_rfl) (by kernel_rfl) (fun _ _ _ h => h) (Or.inl ⟨by rfl, fun W hSw => by (try dsimp only at hSw); go_simp⟩) (by assumption) ?_
      (try simp only [List.setIfInBounds_toArray, List.set_cons_zero, List.set_cons_succ])
      refine takx (i := 12) (D := 85) (v := .agg #[.int .i64 z.a, .int .i64 z.b, .int .i64 z.c, .int .i64 z.d]) rfl rfl (by kernel_rfl) (by kernel_rfl) (by kernel_rfl) (fun _ _ _ h => h) (Or.inl ⟨by rfl, fun W hSw => by (try dsimp only at hSw); go_simp⟩) (by assumption) ?_
      (try simp only [List.setIfInBounds_toArray, List.set_cons_zero, List.set_cons_succ])
      refine wpAnyH_ready (rs := [7]) (by kernel_rfl) (by simp) ?_
      refine (AllReadyH.cons rfl (fun K hK => ?_) AllReadyH.nil)
      go_simp
      refine (toColor4 t.a t.b t.c t.d _).mono ?_
      rintro e X32 ⟨rfl, bc⟩
      refine hK.out _ _ ⟨ck bc hHeld.1, ck bc hHeld.2.1, ck bc hHeld.2.2.1, ck bc hHeld.2.2.2.1, ck bc hHeld.2.2.2.2.1, ck bc hHeld.2.2.2.2.2.1, ck bc hHeld.2.2.2.2.2.2.1, ck bc hHeld.2.2.2.2.2.2.2.1, ck bc hHeld.2.2.2.2.2.2.2.2.1, ck bc hHeld.2.2.2.2.2.2.2.2.2.1, ck bc hHeld.2.2.2.2.2.2.2.2.2.2.1, ck bc hHeld.2.2.2.2.2.2.2.2.2.2.2.1, ck bc hHeld.2.2.2.2.2.2.2.2.2.2.2.2.1, ck bc hHeld.2.2.2.2.2.2.2.2.2.2.2.2.2.1, ck bc hHeld.2.2.2.2.2.2.2.2.2.2.2.2.2.2.1, ck bc hHeld.2.2.2.2.2.2.2.2.2.2.2.2.2.2.2.1, ck bc hHeld.2.2.2.2.2.2.2.2.2.2.2.2.2.2.2.2.1, ck bc hHeld.2.2.2.2.2.2.2.2.2.2.2.2.2.2.2.2.2⟩ (fun hHeld => ?_)
      clear hK K
      (try simp only [List.setIfInBounds_toArray, List.set_cons_zero, List.set_cons_succ])
      replace k_r := bk bc k_r
      replace k_c := bk bc k_c
      replace k_e := bk bc k_e
      replace k_q := bk bc k_q
      replace k_p := bk bc k_p
      replace bw := bst bc bw
      (try replace r2 := (r2.below bc).more bc.size)
      (try replace r3 := (r3.below bc).more bc.size)
      (try replace r4 := (r4.below bc).more bc.size)
      clear bc
      refine wpAnyH_ready (rs := [8]) (by kernel_rfl) (by simp) ?_
      refine (AllReadyH.cons rfl (fun K hK => ?_) AllReadyH.nil)
      go_simp
      refine (nrgbaWrite_any a b c d N h3 h4 h5 h6 HN.out n cp Z (zs) u v t _ ((HR.out.below bw).more bw.size)).mono ?_
      rintro e X33 ⟨A3, cp3, rfl, r3, lo3, bc⟩
      refine hK.out _ _ ⟨ck bc hHeld.1, ck bc hHeld.2.1, ck bc hHeld.2.2.1, ck bc hHeld.2.2.2.1, ck bc hHeld.2.2.2.2.1, ck bc hHeld.2.2.2.2.2.1, ck bc hHeld.2.2.2.2.2.2.1, ck bc hHeld.2.2.2.2.2.2.2.1, ck bc hHeld.2.2.2.2.2.2.2.2.1, ck bc hHeld.2.2.2.2.2.2.2.2.2.1, ck bc hHeld.2.2.2.2.2.2.2.2.2.2.1, ck bc hHeld.2.2.2.2.2.2.2.2.2.2.2.1, ck bc hHeld.2.2.2.2.2.2.2.2.2.2.2.2.1, ck bc hHeld.2.2.2.2.2.2.2.2.2.2.2.2.2.1, ck bc hHeld.2.2.2.2.2.2.2.2.2.2.2.2.2.2.1, ck bc hHeld.2.2.2.2.2.2.2.2.2.2.2.2.2.2.2.1, ck bc hHeld.2.2.2.2.2.2.2.2.2.2.2.2.2.2.2.2.1, ck bc hHeld.2.2.2.2.2.2.2.2.2.2.2.2.2.2.2.2.2⟩ (fun hHeld => ?_)
      clear hK K
      (try simp only [List.setIfInBounds_toArray, List.set_cons_zero, List.set_cons_succ])
      replace k_r := bk bc k_r
      replace k_c := bk bc k_c
      replace k_e := bk bc k_e
      replace k_q := bk bc k_q
      replace k_p := bk bc k_p
      replace bw := bst bc bw
      (try replace r2 := (r2.below bc).more bc.size)
      (try replace r3 := (r3.below bc).more bc.size)
      (try replace r4 := (r4.below bc).more bc.size)
      clear bc
      refine takx (i := 9) (D := 82) (v := .slice A3 N cp3) rfl rfl (by kernel_rfl) (by kernel_rfl) (by kernel_rfl) (fun _ _ _ h => h) (Or.inl ⟨by rfl, fun W hSw => by (try dsimp only at hSw); go_simp⟩) (by assumption) ?_
      (try simp only [List.setIfInBounds_toArray, List.set_cons_zero, List.set_cons_succ])
      refine wpAnyH_ready (rs := [13]) (by kernel_rfl) (by simp) ?_
      refine (AllReadyH.cons rfl (fun K hK => ?_) AllReadyH.nil)
      go_simp
      refine (toColor4 z.a z.b z.c z.d _).mono ?_
      rintro e X34 ⟨rfl, bc⟩
      refine hK.out _ _ ⟨ck bc hHeld.1, ck bc hHeld.2.1, ck bc hHeld.2.2.1, ck bc hHeld.2.2.2.1, ck bc hHeld.2.2.2.2.1, ck bc hHeld.2.2.2.2.2.1, ck bc hHeld.2.2.2.2.2.2.1, ck bc hHeld.2.2.2.2.2.2.2.1, ck bc hHeld.2.2.2.2.2.2.2.2.1, ck bc hHeld.2.2.2.2.2.2.2.2.2.1, ck bc hHeld.2.2.2.2.2.2.2.2.2.2.1, ck bc hHeld.2.2.2.2.2.2.2.2.2.2.2.1, ck bc hHeld.2.2.2.2.2.2.2.2.2.2.2.2.1, ck bc hHeld.2.2.2.2.2.2.2.2.2.2.2.2.2.1, ck bc hHeld.2.2.2.2.2.2.2.2.2.2.2.2.2.2.1, ck bc hHeld.2.2.2.2.2.2.2.2.2.2.2.2.2.2.2.1, ck bc hHeld.2.2.2.2.2.2.2.2.2.2.2.2.2.2.2.2.1, ck bc hHeld.2.2.2.2.2.2.2.2.2.2.2.2.2.2.2.2.2⟩ (fun hHeld => ?_)
      clear hK K
      (try simp only [List.setIfInBounds_toArray, List.set_cons_zero, List.set_cons_succ])
      replace k_r := bk bc k_r
      replace k_c := bk bc k_c
      replace k_e := bk bc k_e
      replace k_q := bk bc k_q
      replace k_p := bk bc k_p
      replace bw := bst bc bw
      (try replace r2 := (r2.below bc).more bc.size)
      (try replace r3 := (r3.below bc).more bc.size)
      (try replace r4 := (r4.below bc).more bc.size)
      clear bc
      refine wpAnyH_ready (rs := [14]) (by kernel_rfl) (by simp) ?_
      refine (AllReadyH.cons rfl (fun K hK => ?_) AllReadyH.nil)
      go_simp
      refine (nrgbaWrite_any a b c d N h3 h4 h5 h6 HN.out N cp3 A3 (wrAt (byt N zs) a b c d u v t) x y z _ r3).mono ?_
      rintro e X35 ⟨A4, cp4, rfl, r4, lo4, bc⟩
      refine hK.out _ _ ⟨ck bc hHeld.1, ck bc hHeld.2.1, ck bc hHeld.2.2.1, ck bc hHeld.2.2.2.1, ck bc hHeld.2.2.2.2.1, ck bc hHeld.2.2.2.2.2.1, ck bc hHeld.2.2.2.2.2.2.1, ck bc hHeld.2.2.2.2.2.2.2.1, ck bc hHeld.2.2.2.2.2.2.2.2.1, ck bc hHeld.2.2.2.2.2.2.2.2.2.1, ck bc hHeld.2.2.2.2.2.2.2.2.2.2.1, ck bc hHeld.2.2.2.2.2.2.2.2.2.2.2.1, ck bc hHeld.2.2.2.2.2.2.2.2.2.2.2.2.1, ck bc hHeld.2.2.2.2.2.2.2.2.2.2.2.2.2.1, ck bc hHeld.2.2.2.2.2.2.2.2.2.2.2.2.2.2.1, ck bc hHeld.2.2.2.2.2.2.2.2.2.2.2.2.2.2.2.1, ck bc hHeld.2.2.2.2.2.2.2.2.2.2.2.2.2.2.2.2.1, ck bc hHeld.2.2.2.2.2.2.2.2.2.2.2.2.2.2.2.2.2⟩ (fun hHeld => ?_)
      clear hK K
      (try simp only [List.setIfInBounds_toArray, List.set_cons_zero, List.set_cons_succ])
      replace k_r := bk bc k_r
      replace k_c := bk bc k_c
      replace k_e := bk bc k_e
      replace k_q := bk bc k_q
      replace k_p := bk bc k_p
      replace bw := bst bc bw
      (try replace r2 := (r2.below bc).more bc.size)
      (try replace r3 := (r3.below bc).more bc.size)
      (try replace r4 := (r4.below bc).more bc.size)
      clear bc
      refine wpAnyH_ready (rs := [15]) (by kernel_rfl) (by simp) ?_
      refine (AllReadyH.cons rfl (fun K hK => ?_) AllReadyH.nil)
      go_simp
      refine (samePic_true _ _ _ _ _ _ _ _ _ _ (wrAt (wrAt (byt N zs) a b c d u v t) a b c d x y z) _ (by have := r2; rw [(byt_self (by rw [wrAt_length, byt_length]) (wrAt_ok (byt_ok _ _))), wr_wr_other HN.out HI.out HJ.out HXY.out] at this; exact this) (by have := r4; rw [(byt_self (by rw [wrAt_length, byt_length]) (wrAt_ok (byt_ok _ _)))] at this; exact this)).mono ?_
      rintro e X36 ⟨rfl, bc⟩
      refine hK.out _ _ ⟨ck bc hHeld.1, ck bc hHeld.2.1, ck bc hHeld.2.2.1, ck bc hHeld.2.2.2.1, ck bc hHeld.2.2.2.2.1, ck bc hHeld.2.2.2.2.2.1, ck bc hHeld.2.2.2.2.2.2.1, ck bc hHeld.2.2.2.2.2.2.2.1, ck bc hHeld.2.2.2.2.2.2.2.2.1, ck bc hHeld.2.2.2.2.2.2.2.2.2.1, ck bc hHeld.2.2.2.2.2.2.2.2.2.2.1, ck bc hHeld.2.2.2.2.2.2.2.2.2.2.2.1, ck bc hHeld.2.2.2.2.2.2.2.2.2.2.2.2.1, ck bc hHeld.2.2.2.2.2.2.2.2.2.2.2.2.2.1, ck bc hHeld.2.2.2.2.2.2.2.2.2.2.2.2.2.2.1, ck bc hHeld.2.2.2.2.2.2.2.2.2.2.2.2.2.2.2.1, ck bc hHeld.2.2.2.2.2.2.2.2.2.2.2.2.2.2.2.2.1, ck bc hHeld.2.2.2.2.2.2.2.2.2.2.2.2.2.2.2.2.2⟩ (fun hHeld => ?_)
      clear hK K
      (try simp only [List.setIfInBounds_toArray, List.set_cons_zero, List.set_cons_succ])
      replace k_r := bk bc k_r
      replace k_c := bk bc k_c
      replace k_e := bk bc k_e
      replace k_q := bk bc k_q
      replace k_p := bk bc k_p
      replace bw := bst bc bw
      (try replace r2 := (r2.below bc).more bc.size)
      (try replace r3 := (r3.below bc).more bc.size)
      (try replace r4 := (r4.below bc).more bc.size)
      clear bc
      refine takx (i := 16) (D := 16) (v := .bool true) rfl rfl (by kernel_rfl) (by kernel_rfl) (by kernel_rfl) (fun _ _ _ h => h) (Or.inl ⟨by rfl, fun W hSw => by (try dsimp only at hSw); go_simp⟩) (by assumption) ?_
      (try simp only [List.setIfInBounds_toArray, List.set_cons_zero, List.set_cons_succ])
      refine wpAnyH_done (by kernel_rfl) ?_ _
      clear hHeld
      go_wp2
      go_ret
      exact ⟨rfl, bw⟩
  have t1 : (x == u) = false := by simpa using hx1
  clear hxy hx1
  go_enter Try.func13, Try.ntmps13
  go_wp2_with fail
  refine (toRect4 a b c d _).mono ?_
  rintro e w1 ⟨rfl, bc⟩
  have bw := bst bc (bsa (bsa (bsa (Below.refl _ _))))
  have k_r : w1.heap[w.heap.size]? = some (.cells #[.int .i64 a, .int .i64 b, .int .i64 c, .int .i64 d] 23 (0, 0)) := by have := bk bc (bka (bka (heap_alloc_new w _))); simpa using this
  have k_c : w1.heap[w.heap.size + 1]? = some (.cells #[.int .i64 z.a, .int .i64 z.b, .int .i64 z.c, .int .i64 z.d] 44 (0, 0)) := by have := bk bc (bka (heap_alloc_new (w.alloc (.cells #[.int .i64 a, .int .i64 b, .int .i64 c, .int .i64 d] 23)) _)); simpa using this
  have k_e : w1.heap[w.heap.size + 2]? = some (.cells #[.int .i64 t.a, .int .i64 t.b, .int .i64 t.c, .int .i64 t.d] 44 (0, 0)) := by have := bk bc (heap_alloc_new ((w.alloc (.cells #[.int .i64 a, .int .i64 b, .int .i64 c, .int .i64 d] 23)).alloc (.cells #[.int .i64 z.a, .int .i64 z.b, .int .i64 z.c, .int .i64 z.d] 44)) _); simpa using this
  clear bc
  go_upto_region 2 with fail
  obtain ⟨Y1, g_q, eY, eg⟩ : ∃ Y g, Y = w1.alloc (.cells #[.int .i64 a, .int .i64 b, .int .i64 c, .int .i64 d] 25) ∧ g = w1.heap.size := ⟨_, _, rfl, rfl⟩
  rw [← eY, ← eg]
  have bc : Below w1.heap.size w1 Y1 := by rw [eY]; exact (Below.refl _ _).alloc (Nat.le_refl _) _
  have k_q : Y1.heap[g_q]? = some (.cells #[.int .i64 a, .int .i64 b, .int .i64 c, .int .i64 d] 25 (0, 0)) := by rw [eY, eg]; exact heap_alloc_new w1 _
  replace k_r := bk bc k_r
  replace k_c := bk bc k_c
  replace k_e := bk bc k_e
  replace bw := bst bc bw
  clear bc eY eg
  have q_r := q4c k_r
  have q_c := q4c k_c
  have q_e := q4c k_e
  have q_q := q4c k_q
  go_wp2_with fail
  refine (fine_yes a b c d HF.out _).mono ?_
  rintro e Y2 ⟨rfl, bc⟩
  clear q_r q_c q_e q_q
  replace k_r := bk bc k_r
  replace k_c := bk bc k_c
  replace k_e := bk bc k_e
  replace k_q := bk bc k_q
  replace bw := bst bc bw
  clear bc
  have q_r := q4c k_r
  have q_c := q4c k_c
  have q_e := q4c k_e
  have q_q := q4c k_q
  go_wp2_with fail
  refine (has_yes a b c d x y HI.out _).mono ?_
  rintro e Y3 ⟨rfl, bc⟩
  clear q_r q_c q_e q_q
  replace k_r := bk bc k_r
  replace k_c := bk bc k_c
  replace k_e := bk bc k_e
  replace k_q := bk bc k_q
  replace bw := bst bc bw
  clear bc
  have q_r := q4c k_r
  have q_c := q4c k_c
  have q_e := q4c k_e
  have q_q := q4c k_q
  go_wp2_with fail
  refine (has_yes a b c d u v HJ.out _).mono ?_
  rintro e Y4 ⟨rfl, bc⟩
  clear q_r q_c q_e q_q
  replace k_r := bk bc k_r
  replace k_c := bk bc k_c
  replace k_e := bk bc k_e
  replace k_q := bk bc k_q
  replace bw := bst bc bw
  clear bc
  go_upto_region 4 with fail
  go_cut [18] (fun s18 wx => ∃ (g_p : Nat) (A2 : Option Addr) (cp2 : Nat), s18 = .pointer (some ⟨g_p, 0, none⟩) ∧ wx.heap[g_p]? = some (.cells #[.int .i64 a, .int .i64 b, .int .i64 c, .int .i64 d, .int .i64 (4 * (c - a)), .slice A2 N cp2] 37 (0, 0)) ∧ wx.heap[w.heap.size]? = some (.cells #[.int .i64 a, .int .i64 b, .int .i64 c, .int .i64 d] 23 (0, 0)) ∧ wx.heap[w.heap.size + 1]? = some (.cells #[.int .i64 z.a, .int .i64 z.b, .int .i64 z.c, .int .i64 z.d] 44 (0, 0)) ∧ wx.heap[w.heap.size + 2]? = some (.cells #[.int .i64 t.a, .int .i64 t.b, .int .i64 t.c, .int .i64 t.d] 44 (0, 0)) ∧ wx.heap[g_q]? = some (.cells #[.int .i64 a, .int .i64 b, .int .i64 c, .int .i64 d] 25 (0, 0)) ∧ Hid (Rd wx wx.heap.size A2 N (wrAt (byt N (wrAt (byt N zs) a b c d x y z)) a b c d u v t)) ∧ Hid (Below w.heap.size w wx))
  case first =>
    refine wp_region_held_drew (S := fun w' => w'.cell? ⟨g_q, 0, none⟩ = some (.int .i64 a) ∧ w'.cell? ⟨g_q, 1, none⟩ = some (.int .i64 b) ∧ w'.cell? ⟨g_q, 2, none⟩ = some (.int .i64 c) ∧ w'.cell? ⟨g_q, 3, none⟩ = some (.int .i64 d) ∧ w'.cell? ⟨w.heap.size + 1, 0, none⟩ = some (.int .i64 z.a) ∧ w'.cell? ⟨w.heap.size + 1, 1, none⟩ = some (.int .i64 z.b) ∧ w'.cell? ⟨w.heap.size + 1, 2, none⟩ = some (.int .i64 z.c) ∧ w'.cell? ⟨w.heap.size + 1, 3, none⟩ = some (.int .i64 z.d) ∧ w'.cell? ⟨w.heap.size + 2, 0, none⟩ = some (.int .i64 t.a) ∧ w'.cell? ⟨w.heap.size + 2, 1, none⟩ = some (.int .i64 t.b) ∧ w'.cell? ⟨w.heap.size + 2, 2, none⟩ = some (.int .i64 t.c) ∧ w'.cell? ⟨w.heap.size + 2, 3, none⟩ = some (.int .i64 t.d)) (by kernel_rfl) ⟨(q4c k_q).1.1, (q4c k_q).1.2.1, (q4c k_q).1.2.2.1, (q4c k_q).1.2.2.2, (q4c k_c).1.1, (q4c k_c).1.2.1, (q4c k_c).1.2.2.1, (q4c k_c).1.2.2.2, (q4c k_e).1.1, (q4c k_e).1.2.1, (q4c k_e).1.2.2.1, (q4c k_e).1.2.2.2⟩ ?_
    intro hHeld
    obtain ⟨X5, eX, bc⟩ : ∃ X, X = Y4.drew ∧ Below Y4.heap.size Y4 X := ⟨_, rfl, (Below.refl _ _).drew⟩
    rw [← eX] at hHeld ⊢
    replace k_r := bk bc k_r
    replace k_c := bk bc k_c
    replace k_e := bk bc k_e
    replace k_q := bk bc k_q
    replace bw := bst bc bw
    (try replace r1 := (r1.below bc).more bc.size)
    (try replace r2 := (r2.below bc).more bc.size)
    clear eX bc
    refine takx (i := 0) (D := 38) (v := .agg #[.int .i64 a, .int .i64 b, .int .i64 c, .int .i64 d]) rfl rfl (by kernel_rfl) (by kernel_rfl) (by kernel_rfl) (fun _ _ _ h => h) (Or.inl ⟨by rfl, fun W hSw => by (try dsimp only at hSw); go_simp⟩) (by assumption) ?_
    (try simp only [List.setIfInBounds_toArray, List.set_cons_zero, List.set_cons_succ])
    refine takx (i := 1) (D := 39) (v := .agg #[.int .i64 a, .int .i64 b, .int .i64 c, .int .i64 d]) rfl rfl (by kernel_rfl) (by kernel_rfl) (by kernel_rfl) (fun _ _ _ h => h) (Or.inl ⟨by rfl, fun W hSw => by (try dsimp only at hSw); go_simp⟩) (by assumption) ?_
    (try simp only [List.setIfInBounds_toArray, List.set_cons_zero, List.set_cons_succ])
    refine takx (i := 2) (D := 40) (v := .slice Z n cp) rfl rfl (by kernel_rfl) (by kernel_rfl) (by kernel_rfl) (fun _ _ _ h => h) (Or.inl ⟨by rfl, fun W hSw => by (try dsimp only at hSw); go_simp⟩) (by assumption) ?_
    (try simp only [List.setIfInBounds_toArray, List.set_cons_zero, List.set_cons_succ])
    refine takx (i := 3) (D := 41) (v := .int .i64 x) rfl rfl (by kernel_rfl) (by kernel_rfl) (by kernel_rfl) (fun _ _ _ h => h) (Or.inl ⟨by rfl, fun W hSw => by (try dsimp only at hSw); go_simp⟩) (by assumption) ?_
    (try simp only [List.setIfInBounds_toArray, List.set_cons_zero, List.set_cons_succ])
    refine takx (i := 4) (D := 42) (v := .int .i64 y) rfl rfl (by kernel_rfl) (by kernel_rfl) (by kernel_rfl) (fun _ _ _ h => h) (Or.inl ⟨by rfl, fun W hSw => by (try dsimp only at hSw); go_simp⟩) (by assumption) ?_
    (try simp only [List.setIfInBounds_toArray, List.set_cons_zero, List.set_cons_succ])
    refine takx (i := 5) (D := 43) (v := .agg #[.int .i64 z.a, .int .i64 z.b, .int .i64 z.c, .int .i64 z.d]) rfl rfl (by kernel_rfl) (by kernel_rfl) (by kernel_rfl) (fun _ _ _ h => h) (Or.inl ⟨by rfl, fun W hSw => by (try dsimp only at hSw); go_simp⟩) (by assumption) ?_
    (try simp only [List.setIfInBounds_toArray, List.set_cons_zero, List.set_cons_succ])
    refine takx (i := 9) (D := 47) (v := .int .i64 u) rfl rfl (by kernel_rfl) (by kernel_rfl) (by kernel_rfl) (fun _ _ _ h => h) (Or.inl ⟨by rfl, fun W hSw => by (try dsimp only at hSw); go_simp⟩) (by assumption) ?_
    (try simp only [List.setIfInBounds_toArray, List.set_cons_zero, List.set_cons_succ])
    refine takx (i := 10) (D := 48) (v := .int .i64 v) rfl rfl (by kernel_rfl) (by kernel_rfl) (by kernel_rfl) (fun _ _ _ h => h) (Or.inl ⟨by rfl, fun W hSw => by (try dsimp only at hSw); go_simp⟩) (by assumption) ?_
    (try simp only [List.setIfInBounds_toArray, List.set_cons_zero, List.set_cons_succ])
    refine takx (i := 11) (D := 49) (v := .agg #[.int .i64 t.a, .int .i64 t.b, .int .i64 t.c, .int .i64 t.d]) rfl rfl (by kernel_rfl) (by kernel_rfl) (by kernel_rfl) (fun _ _ _ h => h) (Or.inl ⟨by rfl, fun W hSw => by (try dsimp only at hSw); go_simp⟩) (by assumption) ?_
    (try simp only [List.setIfInBounds_toArray, List.set_cons_zero, List.set_cons_succ])
    refine wpAnyH_ready (rs := [6, 14]) (by kernel_rfl) (by simp) ?_
    refine (AllReadyH.cons rfl (fun K hK => ?_) (AllReadyH.cons rfl (fun K hK => ?_) AllReadyH.nil))
    · go_simp
      refine (toColor4 z.a z.b z.c z.d _).mono ?_
      rintro e X6 ⟨rfl, bc⟩
      refine hK.out _ _ ⟨ck bc hHeld.1, ck bc hHeld.2.1, ck bc hHeld.2.2.1, ck bc hHeld.2.2.2.1, ck bc hHeld.2.2.2.2.1, ck bc hHeld.2.2.2.2.2.1, ck bc hHeld.2.2.2.2.2.2.1, ck bc hHeld.2.2.2.2.2.2.2.1, ck bc hHeld.2.2.2.2.2.2.2.2.1, ck bc hHeld.2.2.2.2.2.2.2.2.2.1, ck bc hHeld.2.2.2.2.2.2.2.2.2.2.1, ck bc hHeld.2.2.2.2.2.2.2.2.2.2.2⟩ (fun hHeld => ?_)
      clear hK K
      (try simp only [List.setIfInBounds_toArray, List.set_cons_zero, List.set_cons_succ])
      replace k_r := bk bc k_r
      replace k_c := bk bc k_c
      replace k_e := bk bc k_e
      replace k_q := bk bc k_q
      replace bw := bst bc bw
      (try replace r1 := (r1.below bc).more bc.size)
      (try replace r2 := (r2.below bc).more bc.size)
      clear bc
      refine wpAnyH_ready (rs := [7, 14]) (by kernel_rfl) (by simp) ?_
      refine (AllReadyH.cons rfl (fun K hK => ?_) (AllReadyH.cons rfl (fun K hK => ?_) AllReadyH.nil))
      · go_simp
        refine (nrgbaWrite_any a b c d N h3 h4 h5 h6 HN.out n cp Z (zs) x y z _ ((HR.out.below bw).more bw.size)).mono ?_
        rintro e X7 ⟨A1, cp1, rfl, r1, lo1, bc⟩
        refine hK.out _ _ ⟨ck bc hHeld.1, ck bc hHeld.2.1, ck bc hHeld.2.2.1, ck bc hHeld.2.2.2.1, ck bc hHeld.2.2.2.2.1, ck bc hHeld.2.2.2.2.2.1, ck bc hHeld.2.2.2.2.2.2.1, ck bc hHeld.2.2.2.2.2.2.2.1, ck bc hHeld.2.2.2.2.2.2.2.2.1, ck bc hHeld.2.2.2.2.2.2.2.2.2.1, ck bc hHeld.2.2.2.2.2.2.2.2.2.2.1, ck bc hHeld.2.2.2.2.2.2.2.2.2.2.2⟩ (fun hHeld => ?_)
        clear hK K
        (try simp only [List.setIfInBounds_toArray, List.set_cons_zero, List.set_cons_succ])
        replace k_r := bk bc k_r
        replace k_c := bk bc k_c
        replace k_e := bk bc k_e
        replace k_q := bk bc k_q
        replace bw := bst bc bw
        (try replace r1 := (r1.below bc).more bc.size)
        (try replace r2 := (r2.below bc).more bc.size)
        clear bc
        refine takx (i := 8) (D := 46) (v := .slice A1 N cp1) rfl rfl (by kernel_rfl) (by kernel_rfl) (by kernel_rfl) (fun _ _ _ h => h) (Or.inl ⟨by rfl, fun W hSw => by (try dsimp only at hSw); go_simp⟩) (by assumption) ?_
        (try simp only [List.setIfInBounds_toArray, List.set_cons_zero, List.set_cons_succ])
        refine wpAnyH_ready (rs := [12, 14]) (by kernel_rfl) (by simp) ?_
        refine (AllReadyH.cons rfl (fun K hK => ?_) (AllReadyH.cons rfl (fun K hK => ?_) AllReadyH.nil))
        · go_simp
          refine (toColor4 t.a t.b t.c t.d _).mono ?_
          rintro e X8 ⟨rfl, bc⟩
          refine hK.out _ _ ⟨ck bc hHeld.1, ck bc hHeld.2.1, ck bc hHeld.2.2.1, ck bc hHeld.2.2.2.1, ck bc hHeld.2.2.2.2.1, ck bc hHeld.2.2.2.2.2.1, ck bc hHeld.2.2.2.2.2.2.1, ck bc hHeld.2.2.2.2.2.2.2.1, ck bc hHeld.2.2.2.2.2.2.2.2.1, ck bc hHeld.2.2.2.2.2.2.2.2.2.1, ck bc hHeld.2.2.2.2.2.2.2.2.2.2.1, ck bc hHeld.2.2.2.2.2.2.2.2.2.2.2⟩ (fun hHeld => ?_)
          clear hK K
          (try simp only [List.setIfInBounds_toArray, List.set_cons_zero, List.set_cons_succ])
          replace k_r := bk bc k_r
          replace k_c := bk bc k_c
          replace k_e := bk bc k_e
          replace k_q := bk bc k_q
          replace bw := bst bc bw
          (try replace r1 := (r1.below bc).more bc.size)
          (try replace r2 := (r2.below bc).more bc.size)
          clear bc
          refine wpAnyH_ready (rs := [13, 14]) (by kernel_rfl) (by simp) ?_
          refine (AllReadyH.cons rfl (fun K hK => ?_) (AllReadyH.cons rfl (fun K hK => ?_) AllReadyH.nil))
          · go_simp
            refine (nrgbaWrite_any a b c d N h3 h4 h5 h6 HN.out N cp1 A1 (wrAt (byt N zs) a b c d x y z) u v t _ r1).mono ?_
            rintro e X9 ⟨A2, cp2, rfl, r2, lo2, bc⟩
            refine hK.out _ _ ⟨ck bc hHeld.1, ck bc hHeld.2.1, ck bc hHeld.2.2.1, ck bc hHeld.2.2.2.1, ck bc hHeld.2.2.2.2.1, ck bc hHeld.2.2.2.2.2.1, ck bc hHeld.2.2.2.2.2.2.1, ck bc hHeld.2.2.2.2.2.2.2.1, ck bc hHeld.2.2.2.2.2.2.2.2.1, ck bc hHeld.2.2.2.2.2.2.2.2.2.1, ck bc hHeld.2.2.2.2.2.2.2.2.2.2.1, ck bc hHeld.2.2.2.2.2.2.2.2.2.2.2⟩ (fun hHeld => ?_)
            clear hK K
            (try simp only [List.setIfInBounds_toArray, List.set_cons_zero, List.set_cons_succ])
            replace k_r := bk bc k_r
            replace k_c := bk bc k_c
            replace k_e := bk bc k_e
            replace k_q := bk bc k_q
            replace bw := bst bc bw
            (try replace r1 := (r1.below bc).more bc.size)
            (try replace r2 := (r2.below bc).more bc.size)
            clear bc
            refine wpAnyH_ready (rs := [14]) (by kernel_rfl) (by simp) ?_
            refine (AllReadyH.cons rfl (fun K hK => ?_) AllReadyH.nil)
            go_simp
            refine hK.out _ _ ⟨cka hHeld.1, cka hHeld.2.1, cka hHeld.2.2.1, cka hHeld.2.2.2.1, cka hHeld.2.2.2.2.1, cka hHeld.2.2.2.2.2.1, cka hHeld.2.2.2.2.2.2.1, cka hHeld.2.2.2.2.2.2.2.1, cka hHeld.2.2.2.2.2.2.2.2.1, cka hHeld.2.2.2.2.2.2.2.2.2.1, cka hHeld.2.2.2.2.2.2.2.2.2.2.1, cka hHeld.2.2.2.2.2.2.2.2.2.2.2⟩ (fun hHeld => ?_)
            clear hK K
            (try simp only [List.setIfInBounds_toArray, List.set_cons_zero, List.set_cons_succ])
            obtain ⟨X10, g10, eY, eg⟩ : ∃ Y g, Y = X9.alloc (.cells #[.int .i64 0, .int .i64 0, .int .i64 0, .int .i64 0, .int .i64 0, .slice none 0 0] 37) ∧ g = X9.heap.size := ⟨_, _, rfl, rfl⟩
            rw [← eY, ← eg]
            rw [← eY] at hHeld
            have bc : Below X9.heap.size X9 X10 := by rw [eY]; exact (Below.refl _ _).alloc (Nat.le_refl _) _
            have k_n18 : X10.heap[g10]? = some (.cells #[.int .i64 0, .int .i64 0, .int .i64 0, .int .i64 0, .int .i64 0, .slice none 0 0] 37 (0, 0)) := by rw [eY, eg]; exact heap_alloc_new X9 _
            have lo_n18 : w.heap.size ≤ g10 := by rw [eg]; exact bw.size
            have ne_r_n18 : ¬ w.heap.size = g10 := ne_new k_r eg
            have ne_c_n18 : ¬ w.heap.size + 1 = g10 := ne_new k_c eg
            have ne_e_n18 : ¬ w.heap.size + 2 = g10 := ne_new k_e eg
            have ne_q_n18 : ¬ g_q = g10 := ne_new k_q eg
            (try have na_r1 := Rd.ne_new r1 eg)
            (try have na_r2 := Rd.ne_new r2 eg)
            replace k_r := bk bc k_r
            replace k_c := bk bc k_c
            replace k_e := bk bc k_e
            replace k_q := bk bc k_q
            replace bw := bst bc bw
            (try replace r1 := (r1.below bc).more bc.size)
            (try replace r2 := (r2.below bc).more bc.size)
            clear bc eY eg
            refine wpAnyH_ready (rs := [15]) (by kernel_rfl) (by simp) ?_
            refine (AllReadyH.cons rfl (fun K hK => ?_) AllReadyH.nil)
            have qq := q6c k_n18
            go_simp
            clear qq
            refine hK.out _ _ ⟨(cks ne_q_n18 (cks ne_q_n18 (cks ne_q_n18 (cks ne_q_n18 (cks ne_q_n18 (cks ne_q_n18 hHeld.1)))))), (cks ne_q_n18 (cks ne_q_n18 (cks ne_q_n18 (cks ne_q_n18 (cks ne_q_n18 (cks ne_q_n18 hHeld.2.1)))))), (cks ne_q_n18 (cks ne_q_n18 (cks ne_q_n18 (cks ne_q_n18 (cks ne_q_n18 (cks ne_q_n18 hHeld.2.2.1)))))), (cks ne_q_n18 (cks ne_q_n18 (cks ne_q_n18 (cks ne_q_n18 (cks ne_q_n18 (cks ne_q_n18 hHeld.2.2.2.1)))))), (cks ne_c_n18 (cks ne_c_n18 (cks ne_c_n18 (cks ne_c_n18 (cks ne_c_n18 (cks ne_c_n18 hHeld.2.2.2.2.1)))))), (cks ne_c_n18 (cks ne_c_n18 (cks ne_c_n18 (cks ne_c_n18 (cks ne_c_n18 (cks ne_c_n18 hHeld.2.2.2.2.2.1)))))), (cks ne_c_n18 (cks ne_c_n18 (cks ne_c_n18 (cks ne_c_n18 (cks ne_c_n18 (cks ne_c_n18 hHeld.2.2.2.2.2.2.1)))))), (cks ne_c_n18 (cks ne_c_n18 (cks ne_c_n18 (cks ne_c_n18 (cks ne_c_n18 (cks ne_c_n18 hHeld.2.2.2.2.2.2.2.1)))))), (cks ne_e_n18 (cks ne_e_n18 (cks ne_e_n18 (cks ne_e_n18 (cks ne_e_n18 (cks ne_e_n18 hHeld.2.2.2.2.2.2.2.2.1)))))), (cks ne_e_n18 (cks ne_e_n18 (cks ne_e_n18 (cks ne_e_n18 (cks ne_e_n18 (cks ne_e_n18 hHeld.2.2.2.2.2.2.2.2.2.1)))))), (cks ne_e_n18 (cks ne_e_n18 (cks ne_e_n18 (cks ne_e_n18 (cks ne_e_n18 (cks ne_e_n18 hHeld.2.2.2.2.2.2.2.2.2.2.1)))))), (cks ne_e_n18 (cks ne_e_n18 (cks ne_e_n18 (cks ne_e_n18 (cks ne_e_n18 (cks ne_e_n18 hHeld.2.2.2.2.2.2.2.2.2.2.2))))))⟩ (fun hHeld => ?_)
            clear hK K
            (try simp only [List.setIfInBounds_toArray, List.set_cons_zero, List.set_cons_succ])
            obtain ⟨X11, eY⟩ : ∃ Y, Y = ((((((X10.setCell ⟨g10, 0, none⟩ (.int .i64 a)).setCell ⟨g10, 1, none⟩ (.int .i64 b)).setCell ⟨g10, 2, none⟩ (.int .i64 c)).setCell ⟨g10, 3, none⟩ (.int .i64 d)).setCell ⟨g10, 4, none⟩ (.int .i64 (4 * (c - a)))).setCell ⟨g10, 5, none⟩ (.slice A2 N cp2)) := ⟨_, rfl⟩
            rw [← eY] at hHeld ⊢
            replace k_r : X11.heap[w.heap.size]? = some (.cells #[.int .i64 a, .int .i64 b, .int .i64 c, .int .i64 d] 23 (0, 0)) := by rw [eY]; exact (bks ne_r_n18 (bks ne_r_n18 (bks ne_r_n18 (bks ne_r_n18 (bks ne_r_n18 (bks ne_r_n18 k_r))))))
            replace k_c : X11.heap[w.heap.size + 1]? = some (.cells #[.int .i64 z.a, .int .i64 z.b, .int .i64 z.c, .int .i64 z.d] 44 (0, 0)) := by rw [eY]; exact (bks ne_c_n18 (bks ne_c_n18 (bks ne_c_n18 (bks ne_c_n18 (bks ne_c_n18 (bks ne_c_n18 k_c))))))
            replace k_e : X11.heap[w.heap.size + 2]? = some (.cells #[.int .i64 t.a, .int .i64 t.b, .int .i64 t.c, .int .i64 t.d] 44 (0, 0)) := by rw [eY]; exact (bks ne_e_n18 (bks ne_e_n18 (bks ne_e_n18 (bks ne_e_n18 (bks ne_e_n18 (bks ne_e_n18 k_e))))))
            replace k_q : X11.heap[g_q]? = some (.cells #[.int .i64 a, .int .i64 b, .int .i64 c, .int .i64 d] 25 (0, 0)) := by rw [eY]; exact (bks ne_q_n18 (bks ne_q_n18 (bks ne_q_n18 (bks ne_q_n18 (bks ne_q_n18 (bks ne_q_n18 k_q))))))
            replace bw : Below w.heap.size w X11 := by rw [eY]; exact (bss lo_n18 (bss lo_n18 (bss lo_n18 (bss lo_n18 (bss lo_n18 (bss lo_n18 bw))))))
            replace k_n18 : X11.heap[g10]? = some (.cells #[.int .i64 a, .int .i64 b, .int .i64 c, .int .i64 d, .int .i64 (4 * (c - a)), .slice A2 N cp2] 37 (0, 0)) := by rw [eY]; exact q6s k_n18
            (try replace r1 := Rd.sized (W := X11) (Rd.sset na_r1 (Rd.sset na_r1 (Rd.sset na_r1 (Rd.sset na_r1 (Rd.sset na_r1 (Rd.sset na_r1 r1)))))) eY)
            (try replace r2 := Rd.sized (W := X11) (Rd.sset na_r2 (Rd.sset na_r2 (Rd.sset na_r2 (Rd.sset na_r2 (Rd.sset na_r2 (Rd.sset na_r2 r2)))))) eY)
            clear eY
            refine wpAnyH_done (by kernel_rfl) ?_ _
            go_wp2_with fail
            go_meet
            exact ⟨_, A2, cp2, rfl, k_n18, k_r, k_c, k_e, k_q, r2, bw⟩
          · go_simp
            refine hK.out _ _ ⟨cka hHeld.1, cka hHeld.2.1, cka hHeld.2.2.1, cka hHeld.2.2.2.1, cka hHeld.2.2.2.2.1, cka hHeld.2.2.2.2.2.1, cka hHeld.2.2.2.2.2.2.1, cka hHeld.2.2.2.2.2.2.2.1, cka hHeld.2.2.2.2.2.2.2.2.1, cka hHeld.2.2.2.2.2.2.2.2.2.1, cka hHeld.2.2.2.2.2.2.2.2.2.2.1, cka hHeld.2.2.2.2.2.2.2.2.2.2.2⟩ (fun hHeld => ?_)
            clear hK K
            (try simp only [List.setIfInBounds_toArray, List.set_cons_zero, List.set_cons_succ])
            obtain ⟨X12, g12, eY, eg⟩ : ∃ Y g, Y = X8.alloc (.cells #[.int .i64 0, .int .i64 0, .int .i64 0, .int .i64 0, .int .i64 0, .slice none 0 0] 37) ∧ g = X8.heap.size := ⟨_, _, rfl, rfl⟩
            rw [← eY, ← eg]
            rw [← eY] at hHeld
            have bc : Below X8.heap.size X8 X12 := by rw [eY]; exact (Below.refl _ _).alloc (Nat.le_refl _) _
            have k_n18 : X12.heap[g12]? = some (.cells #[.int .i64 0, .int .i64 0, .int .i64 0, .int .i64 0, .int .i64 0, .slice none 0 0] 37 (0, 0)) := by rw [eY, eg]; exact heap_alloc_new X8 _
            have lo_n18 : w.heap.size ≤ g12 := by rw [eg]; exact bw.size
            have ne_r_n18 : ¬ w.heap.size = g12 := ne_new k_r eg
            have ne_c_n18 : ¬ w.heap.size + 1 = g12 := ne_new k_c eg
            have ne_e_n18 : ¬ w.heap.size + 2 = g12 := ne_new k_e eg
            have ne_q_n18 : ¬ g_q = g12 := ne_new k_q eg
            (try have na_r1 := Rd.ne_new r1 eg)
            (try have na_r2 := Rd.ne_new r2 eg)
            replace k_r := bk bc k_r
            replace k_c := bk bc k_c
            replace k_e := bk bc k_e
            replace k_q := bk bc k_q
            replace bw := bst bc bw
            (try replace r1 := (r1.below bc).more bc.size)
            (try replace r2 := (r2.below bc).more bc.size)
            clear bc eY eg
            refine wpAnyH_ready (rs := [13]) (by kernel_rfl) (by simp) ?_
            refine (AllReadyH.cons rfl (fun K hK => ?_) AllReadyH.nil)
            go_simp
            refine (nrgbaWrite_any a b c d N h3 h4 h5 h6 HN.out N cp1 A1 (wrAt (byt N zs) a b c d x y z) u v t _ r1).mono ?_
            rintro e X13 ⟨A2, cp2, rfl, r2, lo2, bc⟩
            refine hK.out _ _ ⟨ck bc hHeld.1, ck bc hHeld.2.1, ck bc hHeld.2.2.1, ck bc hHeld.2.2.2.1, ck bc hHeld.2.2.2.2.1, ck bc hHeld.2.2.2.2.2.1, ck bc hHeld.2.2.2.2.2.2.1, ck bc hHeld.2.2.2.2.2.2.2.1, ck bc hHeld.2.2.2.2.2.2.2.2.1, ck bc hHeld.2.2.2.2.2.2.2.2.2.1, ck bc hHeld.2.2.2.2.2.2.2.2.2.2.1, ck bc hHeld.2.2.2.2.2.2.2.2.2.2.2⟩ (fun hHeld => ?_)
            clear hK K
            (try simp only [List.setIfInBounds_toArray, List.set_cons_zero, List.set_cons_succ])
            have na_r2 := lo_ne (n := N) lo2 k_n18
            replace k_r := bk bc k_r
            replace k_c := bk bc k_c
            replace k_e := bk bc k_e
            replace k_q := bk bc k_q
            replace k_n18 := bk bc k_n18
            replace bw := bst bc bw
            (try replace r1 := (r1.below bc).more bc.size)
            (try replace r2 := (r2.below bc).more bc.size)
            clear bc
            refine wpAnyH_ready (rs := [15]) (by kernel_rfl) (by simp) ?_
            refine (AllReadyH.cons rfl (fun K hK => ?_) AllReadyH.nil)
            have qq := q6c k_n18
            go_simp
            clear qq
            refine hK.out _ _ ⟨(cks ne_q_n18 (cks ne_q_n18 (cks ne_q_n18 (cks ne_q_n18 (cks ne_q_n18 (cks ne_q_n18 hHeld.1)))))), (cks ne_q_n18 (cks ne_q_n18 (cks ne_q_n18 (cks ne_q_n18 (cks ne_q_n18 (cks ne_q_n18 hHeld.2.1)))))), (cks ne_q_n18 (cks ne_q_n18 (cks ne_q_n18 (cks ne_q_n18 (cks ne_q_n18 (cks ne_q_n18 hHeld.2.2.1)))))), (cks ne_q_n18 (cks ne_q_n18 (cks ne_q_n18 (cks ne_q_n18 (cks ne_q_n18 (cks ne_q_n18 hHeld.2.2.2.1)))))), (cks ne_c_n18 (cks ne_c_n18 (cks ne_c_n18 (cks ne_c_n18 (cks ne_c_n18 (cks ne_c_n18 hHeld.2.2.2.2.1)))))), (cks ne_c_n18 (cks ne_c_n18 (cks ne_c_n18 (cks ne_c_n18 (cks ne_c_n18 (cks ne_c_n18 hHeld.2.2.2.2.2.1)))))), (cks ne_c_n18 (cks ne_c_n18 (cks ne_c_n18 (cks ne_c_n18 (cks ne_c_n18 (cks ne_c_n18 hHeld.2.2.2.2.2.2.1)))))), (cks ne_c_n18 (cks ne_c_n18 (cks ne_c_n18 (cks ne_c_n18 (cks ne_c_n18 (cks ne_c_n18 hHeld.2.2.2.2.2.2.2.1)))))), (cks ne_e_n18 (cks ne_e_n18 (cks ne_e_n18 (cks ne_e_n18 (cks ne_e_n18 (cks ne_e_n18 hHeld.2.2.2.2.2.2.2.2.1)))))), (cks ne_e_n18 (cks ne_e_n18 (cks ne_e_n18 (cks ne_e_n18 (cks ne_e_n18 (cks ne_e_n18 hHeld.2.2.2.2.2.2.2.2.2.1)))))), (cks ne_e_n18 (cks ne_e_n18 (cks ne_e_n18 (cks ne_e_n18 (cks ne_e_n18 (cks ne_e_n18 hHeld.2.2.2.2.2.2.2.2.2.2.1)))))), (cks ne_e_n18 (cks ne_e_n18 (cks ne_e_n18 (cks ne_e_n18 (cks ne_e_n18 (cks ne_e_n18 hHeld.2.2.2.2.2.2.2.2.2.2.2))))))⟩ (fun hHeld => ?_)
            clear hK K
            (try simp only [List.setIfInBounds_toArray, List.set_cons_zero, List.set_cons_succ])
            obtain ⟨X14, eY⟩ : ∃ Y, Y = ((((((X13.setCell ⟨g12, 0, none⟩ (.int .i64 a)).setCell ⟨g12, 1, none⟩ (.int .i64 b)).setCell ⟨g12, 2, none⟩ (.int .i64 c)).setCell ⟨g12, 3, none⟩ (.int .i64 d)).setCell ⟨g12, 4, none⟩ (.int .i64 (4 * (c - a)))).setCell ⟨g12, 5, none⟩ (.slice A2 N cp2)) := ⟨_, rfl⟩
            rw [← eY] at hHeld ⊢
            replace k_r : X14.heap[w.heap.size]? = some (.cells #[.int .i64 a, .int .i64 b, .int .i64 c, .int .i64 d] 23 (0, 0)) := by rw [eY]; exact (bks ne_r_n18 (bks ne_r_n18 (bks ne_r_n18 (bks ne_r_n18 (bks ne_r_n18 (bks ne_r_n18 k_r))))))
            replace k_c : X14.heap[w.heap.size + 1]? = some (.cells #[.int .i64 z.a, .int .i64 z.b, .int .i64 z.c, .int .i64 z.d] 44 (0, 0)) := by rw [eY]; exact (bks ne_c_n18 (bks ne_c_n18 (bks ne_c_n18 (bks ne_c_n18 (bks ne_c_n18 (bks ne_c_n18 k_c))))))
            replace k_e : X14.heap[w.heap.size + 2]? = some (.cells #[.int .i64 t.a, .int .i64 t.b, .int .i64 t.c, .int .i64 t.d] 44 (0, 0)) := by rw [eY]; exact (bks ne_e_n18 (bks ne_e_n18 (bks ne_e_n18 (bks ne_e_n18 (bks ne_e_n18 (bks ne_e_n18 k_e))))))
            replace k_q : X14.heap[g_q]? = some (.cells #[.int .i64 a, .int .i64 b, .int .i64 c, .int .i64 d] 25 (0, 0)) := by rw [eY]; exact (bks ne_q_n18 (bks ne_q_n18 (bks ne_q_n18 (bks ne_q_n18 (bks ne_q_n18 (bks ne_q_n18 k_q))))))
            replace bw : Below w.heap.size w X14 := by rw [eY]; exact (bss lo_n18 (bss lo_n18 (bss lo_n18 (bss lo_n18 (bss lo_n18 (bss lo_n18 bw))))))
            replace k_n18 : X14.heap[g12]? = some (.cells #[.int .i64 a, .int .i64 b, .int .i64 c, .int .i64 d, .int .i64 (4 * (c - a)), .slice A2 N cp2] 37 (0, 0)) := by rw [eY]; exact q6s k_n18
            (try replace r1 := Rd.sized (W := X14) (Rd.sset na_r1 (Rd.sset na_r1 (Rd.sset na_r1 (Rd.sset na_r1 (Rd.sset na_r1 (Rd.sset na_r1 r1)))))) eY)
            (try replace r2 := Rd.sized (W := X14) (Rd.sset na_r2 (Rd.sset na_r2 (Rd.sset na_r2 (Rd.sset na_r2 (Rd.sset na_r2 (Rd.sset na_r2 r2)))))) eY)
            clear eY
            refine wpAnyH_done (by kernel_rfl) ?_ _
            go_wp2_with fail
            go_meet
            exact ⟨_, A2, cp2, rfl, k_n18, k_r, k_c, k_e, k_q, r2, bw⟩
        · go_simp
          refine hK.out _ _ ⟨cka hHeld.1, cka hHeld.2.1, cka hHeld.2.2.1, cka hHeld.2.2.2.1, cka hHeld.2.2.2.2.1, cka hHeld.2.2.2.2.2.1, cka hHeld.2.2.2.2.2.2.1, cka hHeld.2.2.2.2.2.2.2.1, cka hHeld.2.2.2.2.2.2.2.2.1, cka hHeld.2.2.2.2.2.2.2.2.2.1, cka hHeld.2.2.2.2.2.2.2.2.2.2.1, cka hHeld.2.2.2.2.2.2.2.2.2.2.2⟩ (fun hHeld => ?_)
          clear hK K
          (try simp only [List.setIfInBounds_toArray, List.set_cons_zero, List.set_cons_succ])
          obtain ⟨X15, g15, eY, eg⟩ : ∃ Y g, Y = X7.alloc (.cells #[.int .i64 0, .int .i64 0, .int .i64 0, .int .i64 0, .int .i64 0, .slice none 0 0] 37) ∧ g = X7.heap.size := ⟨_, _, rfl, rfl⟩
          rw [← eY, ← eg]
          rw [← eY] at hHeld
          have bc : Below X7.heap.size X7 X15 := by rw [eY]; exact (Below.refl _ _).alloc (Nat.le_refl _) _
          have k_n18 : X15.heap[g15]? = some (.cells #[.int .i64 0, .int .i64 0, .int .i64 0, .int .i64 0, .int .i64 0, .slice none 0 0] 37 (0, 0)) := by rw [eY, eg]; exact heap_alloc_new X7 _
          have lo_n18 : w.heap.size ≤ g15 := by rw [eg]; exact bw.size
          have ne_r_n18 : ¬ w.heap.size = g15 := ne_new k_r eg
          have ne_c_n18 : ¬ w.heap.size + 1 = g15 := ne_new k_c eg
          have ne_e_n18 : ¬ w.heap.size + 2 = g15 := ne_new k_e eg
          have ne_q_n18 : ¬ g_q = g15 := ne_new k_q eg
          (try have na_r1 := Rd.ne_new r1 eg)
          (try have na_r2 := Rd.ne_new r2 eg)
          replace k_r := bk bc k_r
          replace k_c := bk bc k_c
          replace k_e := bk bc k_e
          replace k_q := bk bc k_q
          replace bw := bst bc bw
          (try replace r1 := (r1.below bc).more bc.size)
          (try replace r2 := (r2.below bc).more bc.size)
          clear bc eY eg
          refine wpAnyH_ready (rs := [12]) (by kernel_rfl) (by simp) ?_
          refine (AllReadyH.cons rfl (fun K hK => ?_) AllReadyH.nil)
          go_simp
          refine (toColor4 t.a t.b t.c t.d _).mono ?_
          rintro e X16 ⟨rfl, bc⟩
          refine hK.out _ _ ⟨ck bc hHeld.1, ck bc hHeld.2.1, ck bc hHeld.2.2.1, ck bc hHeld.2.2.2.1, ck bc hHeld.2.2.2.2.1, ck bc hHeld.2.2.2.2.2.1, ck bc hHeld.2.2.2.2.2.2.1, ck bc hHeld.2.2.2.2.2.2.2.1, ck bc hHeld.2.2.2.2.2.2.2.2.1, ck bc hHeld.2.2.2.2.2.2.2.2.2.1, ck bc hHeld.2.2.2.2.2.2.2.2.2.2.1, ck bc hHeld.2.2.2.2.2.2.2.2.2.2.2⟩ (fun hHeld => ?_)
          clear hK K
          (try simp only [List.setIfInBounds_toArray, List.set_cons_zero, List.set_cons_succ])
          replace k_r := bk bc k_r
          replace k_c := bk bc k_c
          replace k_e := bk bc k_e
          replace k_q := bk bc k_q
          replace k_n18 := bk bc k_n18
          replace bw := bst bc bw
          (try replace r1 := (r1.below bc).more bc.size)
          (try replace r2 := (r2.below bc).more bc.size)
          clear bc
          refine wpAnyH_ready (rs := [13]) (by kernel_rfl) (by simp) ?_
          refine (AllReadyH.cons rfl (fun K hK => ?_) AllReadyH.nil)
          go_simp
          refine (nrgbaWrite_any a b c d N h3 h4 h5 h6 HN.out N cp1 A1 (wrAt (byt N zs) a b c d x y z) u v t _ r1).mono ?_
          rintro e X17 ⟨A2, cp2, rfl, r2, lo2, bc⟩
          refine hK.out _ _ ⟨ck bc hHeld.1, ck bc hHeld.2.1, ck bc hHeld.2.2.1, ck bc hHeld.2.2.2.1, ck bc hHeld.2.2.2.2.1, ck bc hHeld.2.2.2.2.2.1, ck bc hHeld.2.2.2.2.2.2.1, ck bc hHeld.2.2.2.2.2.2.2.1, ck bc hHeld.2.2.2.2.2.2.2.2.1, ck bc hHeld.2.2.2.2.2.2.2.2.2.1, ck bc hHeld.2.2.2.2.2.2.2.2.2.2.1, ck bc hHeld.2.2.2.2.2.2.2.2.2.2.2⟩ (fun hHeld => ?_)
          clear hK K
          (try simp only [List.setIfInBounds_toArray, List.set_cons_zero, List.set_cons_succ])
          have na_r2 := lo_ne (n := N) lo2 k_n18
          replace k_r := bk bc k_r
          replace k_c := bk bc k_c
          replace k_e := bk bc k_e
          replace k_q := bk bc k_q
          replace k_n18 := bk bc k_n18
          replace bw := bst bc bw
          (try replace r1 := (r1.below bc).more bc.size)
          (try replace r2 := (r2.below bc).more bc.size)
          clear bc
          refine wpAnyH_ready (rs := [15]) (by kernel_rfl) (by simp) ?_
          refine (AllReadyH.cons rfl (fun K hK => ?_) AllReadyH.nil)
          have qq := q6c k_n18
          go_simp
          clear qq
          refine hK.out _ _ ⟨(cks ne_q_n18 (cks ne_q_n18 (cks ne_q_n18 (cks ne_q_n18 (cks ne_q_n18 (cks ne_q_n18 hHeld.1)))))), (cks ne_q_n18 (cks ne_q_n18 (cks ne_q_n18 (cks ne_q_n18 (cks ne_q_n18 (cks ne_q_n18 hHeld.2.1)))))), (cks ne_q_n18 (cks ne_q_n18 (cks ne_q_n18 (cks ne_q_n18 (cks ne_q_n18 (cks ne_q_n18 hHeld.2.2.1)))))), (cks ne_q_n18 (cks ne_q_n18 (cks ne_q_n18 (cks ne_q_n18 (cks ne_q_n18 (cks ne_q_n18 hHeld.2.2.2.1)))))), (cks ne_c_n18 (cks ne_c_n18 (cks ne_c_n18 (cks ne_c_n18 (cks ne_c_n18 (cks ne_c_n18 hHeld.2.2.2.2.1)))))), (cks ne_c_n18 (cks ne_c_n18 (cks ne_c_n18 (cks ne_c_n18 (cks ne_c_n18 (cks ne_c_n18 hHeld.2.2.2.2.2.1)))))), (cks ne_c_n18 (cks ne_c_n18 (cks ne_c_n18 (cks ne_c_n18 (cks ne_c_n18 (cks ne_c_n18 hHeld.2.2.2.2.2.2.1)))))), (cks ne_c_n18 (cks ne_c_n18 (cks ne_c_n18 (cks ne_c_n18 (cks ne_c_n18 (cks ne_c_n18 hHeld.2.2.2.2.2.2.2.1)))))), (cks ne_e_n18 (cks ne_e_n18 (cks ne_e_n18 (cks ne_e_n18 (cks ne_e_n18 (cks ne_e_n18 hHeld.2.2.2.2.2.2.2.2.1)))))), (cks ne_e_n18 (cks ne_e_n18 (cks ne_e_n18 (cks ne_e_n18 (cks ne_e_n18 (cks ne_e_n18 hHeld.2.2.2.2.2.2.2.2.2.1)))))), (cks ne_e_n18 (cks ne_e_n18 (cks ne_e_n18 (cks ne_e_n18 (cks ne_e_n18 (cks ne_e_n18 hHeld.2.2.2.2.2.2.2.2.2.2.1)))))), (cks ne_e_n18 (cks ne_e_n18 (cks ne_e_n18 (cks ne_e_n18 (cks ne_e_n18 (cks ne_e_n18 hHeld.2.2.2.2.2.2.2.2.2.2.2))))))⟩ (fun hHeld => ?_)
          clear hK K
          (try simp only [List.setIfInBounds_toArray, List.set_cons_zero, List.set_cons_succ])
          obtain ⟨X18, eY⟩ : ∃ Y, Y = ((((((X17.setCell ⟨g15, 0, none⟩ (.int .i64 a)).setCell ⟨g15, 1, none⟩ (.int .i64 b)).setCell ⟨g15, 2, none⟩ (.int .i64 c)).setCell ⟨g15, 3, none⟩ (.int .i64 d)).setCell ⟨g15, 4, none⟩ (.int .i64 (4 * (c - a)))).setCell ⟨g15, 5, none⟩ (.slice A2 N cp2)) := ⟨_, rfl⟩
          rw [← eY] at hHeld ⊢
          replace k_r : X18.heap[w.heap.size]? = some (.cells #[.int .i64 a, .int .i64 b, .int .i64 c, .int .i64 d] 23 (0, 0)) := by rw [eY]; exact (bks ne_r_n18 (bks ne_r_n18 (bks ne_r_n18 (bks ne_r_n18 (bks ne_r_n18 (bks ne_r_n18 k_r))))))
          replace k_c : X18.heap[w.heap.size + 1]? = some (.cells #[.int .i64 z.a, .int .i64 z.b, .int .i64 z.c, .int .i64 z.d] 44 (0, 0)) := by rw [eY]; exact (bks ne_c_n18 (bks ne_c_n18 (bks ne_c_n18 (bks ne_c_n18 (bks ne_c_n18 (bks ne_c_n18 k_c))))))
          replace k_e : X18.heap[w.heap.size + 2]? = some (.cells #[.int .i64 t.a, .int .i64 t.b, .int .i64 t.c, .int .i64 t.d] 44 (0, 0)) := by rw [eY]; exact (bks ne_e_n18 (bks ne_e_n18 (bks ne_e_n18 (bks ne_e_n18 (bks ne_e_n18 (bks ne_e_n18 k_e))))))
          replace k_q : X18.heap[g_q]? = some (.cells #[.int .i64 a, .int .i64 b, .int .i64 c, .int .i64 d] 25 (0, 0)) := by rw [eY]; exact (bks ne_q_n18 (bks ne_q_n18 (bks ne_q_n18 (bks ne_q_n18 (bks ne_q_n18 (bks ne_q_n18 k_q))))))
          replace bw : Below w.heap.size w X18 := by rw [eY]; exact (bss lo_n18 (bss lo_n18 (bss lo_n18 (bss lo_n18 (bss lo_n18 (bss lo_n18 bw))))))
          replace k_n18 : X18.heap[g15]? = some (.cells #[.int .i64 a, .int .i64 b, .int .i64 c, .int .i64 d, .int .i64 (4 * (c - a)), .slice A2 N cp2] 37 (0, 0)) := by rw [eY]; exact q6s k_n18
          (try replace r1 := Rd.sized (W := X18) (Rd.sset na_r1 (Rd.sset na_r1 (Rd.sset na_r1 (Rd.sset na_r1 (Rd.sset na_r1 (Rd.sset na_r1 r1)))))) eY)
          (try replace r2 := Rd.sized (W := X18) (Rd.sset na_r2 (Rd.sset na_r2 (Rd.sset na_r2 (Rd.sset na_r2 (Rd.sset na_r2 (Rd.sset na_r2 r2)))))) eY)
          clear eY
          refine wpAnyH_done (by kernel_rfl) ?_ _
          go_wp2_with fail
          go_meet
          exact ⟨_, A2, cp2, rfl, k_n18, k_r, k_c, k_e, k_q, r2, bw⟩
      · go_simp
        refine hK.out _ _ ⟨cka hHeld.1, cka hHeld.2.1, cka hHeld.2.2.1, cka hHeld.2.2.2.1, cka hHeld.2.2.2.2.1, cka hHeld.2.2.2.2.2.1, cka hHeld.2.2.2.2.2.2.1, cka hHeld.2.2.2.2.2.2.2.1, cka hHeld.2.2.2.2.2.2.2.2.1, cka hHeld.2.2.2.2.2.2.2.2.2.1, cka hHeld.2.2.2.2.2.2.2.2.2.2.1, cka hHeld.2.2.2.2.2.2.2.2.2.2.2⟩ (fun hHeld => ?_)
        clear hK K
        (try simp only [List.setIfInBounds_toArray, List.set_cons_zero, List.set_cons_succ])
        obtain ⟨X19, g19, eY, eg⟩ : ∃ Y g, Y = X6.alloc (.cells #[.int .i64 0, .int .i64 0, .int .i64 0, .int .i64 0, .int .i64 0, .slice none 0 0] 37) ∧ g = X6.heap.size := ⟨_, _, rfl, rfl⟩
        rw [← eY, ← eg]
        rw [← eY] at hHeld
        have bc : Below X6.heap.size X6 X19 := by rw [eY]; exact (Below.refl _ _).alloc (Nat.le_refl _) _
        have k_n18 : X19.heap[g19]? = some (.cells #[.int .i64 0, .int .i64 0, .int .i64 0, .int .i64 0, .int .i64 0, .slice none 0 0] 37 (0, 0)) := by rw [eY, eg]; exact heap_alloc_new X6 _
        have lo_n18 : w.heap.size ≤ g19 := by rw [eg]; exact bw.size
        have ne_r_n18 : ¬ w.heap.size = g19 := ne_new k_r eg
        have ne_c_n18 : ¬ w.heap.size + 1 = g19 := ne_new k_c eg
        have ne_e_n18 : ¬ w.heap.size + 2 = g19 := ne_new k_e eg
        have ne_q_n18 : ¬ g_q = g19 := ne_new k_q eg
        (try have na_r1 := Rd.ne_new r1 eg)
        (try have na_r2 := Rd.ne_new r2 eg)
        replace k_r := bk bc k_r
        replace k_c := bk bc k_c
        replace k_e := bk bc k_e
        replace k_q := bk bc k_q
        replace bw := bst bc bw
        (try replace r1 := (r1.below bc).more bc.size)
        (try replace r2 := (r2.below bc).more bc.size)
        clear bc eY eg
        refine wpAnyH_ready (rs := [7]) (by kernel_rfl) (by simp) ?_
        refine (AllReadyH.cons rfl (fun K hK => ?_) AllReadyH.nil)
        go_simp
        refine (nrgbaWrite_any a b c d N h3 h4 h5 h6 HN.out n cp Z (zs) x y z _ ((HR.out.below bw).more bw.size)).mono ?_
        rintro e X20 ⟨A1, cp1, rfl, r1, lo1, bc⟩
        refine hK.out _ _ ⟨ck bc hHeld.1, ck bc hHeld.2.1, ck bc hHeld.2.2.1, ck bc hHeld.2.2.2.1, ck bc hHeld.2.2.2.2.1, ck bc hHeld.2.2.2.2.2.1, ck bc hHeld.2.2.2.2.2.2.1, ck bc hHeld.2.2.2.2.2.2.2.1, ck bc hHeld.2.2.2.2.2.2.2.2.1, ck bc hHeld.2.2.2.2.2.2.2.2.2.1, ck bc hHeld.2.2.2.2.2.2.2.2.2.2.1, ck bc hHeld.2.2.2.2.2.2.2.2.2.2.2⟩ (fun hHeld => ?_)
        clear hK K
        (try simp only [List.setIfInBounds_toArray, List.set_cons_zero, List.set_cons_succ])
        have na_r1 := lo_ne (n := N) lo1 k_n18
        replace k_r := bk bc k_r
        replace k_c := bk bc k_c
        replace k_e := bk bc k_e
        replace k_q := bk bc k_q
        replace k_n18 := bk bc k_n18
        replace bw := bst bc bw
        (try replace r1 := (r1.below bc).more bc.size)
        (try replace r2 := (r2.below bc).more bc.size)
        clear bc
        refine takx (i := 8) (D := 46) (v := .slice A1 N cp1) rfl rfl (by kernel_rfl) (by kernel_rfl) (by kernel_rfl) (fun _ _ _ h => h) (Or.inl ⟨by rfl, fun W hSw => by (try dsimp only at hSw); go_simp⟩) (by assumption) ?_
        (try simp only [List.setIfInBounds_toArray, List.set_cons_zero, List.set_cons_succ])
        refine wpAnyH_ready (rs := [12]) (by kernel_rfl) (by simp) ?_
        refine (AllReadyH.cons rfl (fun K hK => ?_) AllReadyH.nil)
        go_simp
        refine (toColor4 t.a t.b t.c t.d _).mono ?_
        rintro e X21 ⟨rfl, bc⟩
        refine hK.out _ _ ⟨ck bc hHeld.1, ck bc hHeld.2.1, ck bc hHeld.2.2.1, ck bc hHeld.2.2.2.1, ck bc hHeld.2.2.2.2.1, ck bc hHeld.2.2.2.2.2.1, ck bc hHeld.2.2.2.2.2.2.1, ck bc hHeld.2.2.2.2.2.2.2.1, ck bc hHeld.2.2.2.2.2.2.2.2.1, ck bc hHeld.2.2.2.2.2.2.2.2.2.1, ck bc hHeld.2.2.2.2.2.2.2.2.2.2.1, ck bc hHeld.2.2.2.2.2.2.2.2.2.2.2⟩ (fun hHeld => ?_)
        clear hK K
        (try simp only [List.setIfInBounds_toArray, List.set_cons_zero, List.set_cons_succ])
        replace k_r := bk bc k_r
        replace k_c := bk bc k_c
        replace k_e := bk bc k_e
        replace k_q := bk bc k_q
        replace k_n18 := bk bc k_n18
        replace bw := bst bc bw
        (try replace r1 := (r1.below bc).more bc.size)
        (try replace r2 := (r2.below bc).more bc.size)
        clear bc
        refine wpAnyH_ready (rs := [13]) (by kernel_rfl) (by simp) ?_
        refine (AllReadyH.cons rfl (fun K hK => ?_) AllReadyH.nil)
        go_simp
        refine (nrgbaWrite_any a b c d N h3 h4 h5 h6 HN.out N cp1 A1 (wrAt (byt N zs) a b c d x y z) u v t _ r1).mono ?_
        rintro e X22 ⟨A2, cp2, rfl, r2, lo2, bc⟩
        refine hK.out _ _ ⟨ck bc hHeld.1, ck bc hHeld.2.1, ck bc hHeld.2.2.1, ck bc hHeld.2.2.2.1, ck bc hHeld.2.2.2.2.1, ck bc hHeld.2.2.2.2.2.1, ck bc hHeld.2.2.2.2.2.2.1, ck bc hHeld.2.2.2.2.2.2.2.1, ck bc hHeld.2.2.2.2.2.2.2.2.1, ck bc hHeld.2.2.2.2.2.2.2.2.2.1, ck bc hHeld.2.2.2.2.2.2.2.2.2.2.1, ck bc hHeld.2.2.2.2.2.2.2.2.2.2.2⟩ (fun hHeld => ?_)
        clear hK K
        (try simp only [List.setIfInBounds_toArray, List.set_cons_zero, List.set_cons_succ])
        have na_r2 := lo_ne (n := N) lo2 k_n18
        replace k_r := bk bc k_r
        replace k_c := bk bc k_c
        replace k_e := bk bc k_e
        replace k_q := bk bc k_q
        replace k_n18 := bk bc k_n18
        replace bw := bst bc bw
        (try replace r1 := (r1.below bc).more bc.size)
        (try replace r2 := (r2.below bc).more bc.size)
        clear bc
        refine wpAnyH_ready (rs := [15]) (by kernel_rfl) (by simp) ?_
        refine (AllReadyH.cons rfl (fun K hK => ?_) AllReadyH.nil)
        have qq := q6c k_n18
        go_simp
        clear qq
        refine hK.out _ _ ⟨(cks ne_q_n18 (cks ne_q_n18 (cks ne_q_n18 (cks ne_q_n18 (cks ne_q_n18 (cks ne_q_n18 hHeld.1)))))), (cks ne_q_n18 (cks ne_q_n18 (cks ne_q_n18 (cks ne_q_n18 (cks ne_q_n18 (cks ne_q_n18 hHeld.2.1)))))), (cks ne_q_n18 (cks ne_q_n18 (cks ne_q_n18 (cks ne_q_n18 (cks ne_q_n18 (cks ne_q_n18 hHeld.2.2.1)))))), (cks ne_q_n18 (cks ne_q_n18 (cks ne_q_n18 (cks ne_q_n18 (cks ne_q_n18 (cks ne_q_n18 hHeld.2.2.2.1)))))), (cks ne_c_n18 (cks ne_c_n18 (cks ne_c_n18 (cks ne_c_n18 (cks ne_c_n18 (cks ne_c_n18 hHeld.2.2.2.2.1)))))), (cks ne_c_n18 (cks ne_c_n18 (cks ne_c_n18 (cks ne_c_n18 (cks ne_c_n18 (cks ne_c_n18 hHeld.2.2.2.2.2.1)))))), (cks ne_c_n18 (cks ne_c_n18 (cks ne_c_n18 (cks ne_c_n18 (cks ne_c_n18 (cks ne_c_n18 hHeld.2.2.2.2.2.2.1)))))), (cks ne_c_n18 (cks ne_c_n18 (cks ne_c_n18 (cks ne_c_n18 (cks ne_c_n18 (cks ne_c_n18 hHeld.2.2.2.2.2.2.2.1)))))), (cks ne_e_n18 (cks ne_e_n18 (cks ne_e_n18 (cks ne_e_n18 (cks ne_e_n18 (cks ne_e_n18 hHeld.2.2.2.2.2.2.2.2.1)))))), (cks ne_e_n18 (cks ne_e_n18 (cks ne_e_n18 (cks ne_e_n18 (cks ne_e_n18 (cks ne_e_n18 hHeld.2.2.2.2.2.2.2.2.2.1)))))), (cks ne_e_n18 (cks ne_e_n18 (cks ne_e_n18 (cks ne_e_n18 (cks ne_e_n18 (cks ne_e_n18 hHeld.2.2.2.2.2.2.2.2.2.2.1)))))), (cks ne_e_n18 (cks ne_e_n18 (cks ne_e_n18 (cks ne_e_n18 (cks ne_e_n18 (cks ne_e_n18 hHeld.2.2.2.2.2.2.2.2.2.2.2))))))⟩ (fun hHeld => ?_)
        clear hK K
        (try simp only [List.setIfInBounds_toArray, List.set_cons_zero, List.set_cons_succ])
        obtain ⟨X23, eY⟩ : ∃ Y, Y = ((((((X22.setCell ⟨g19, 0, none⟩ (.int .i64 a)).setCell ⟨g19, 1, none⟩ (.int .i64 b)).setCell ⟨g19, 2, none⟩ (.int .i64 c)).setCell ⟨g19, 3, none⟩ (.int .i64 d)).setCell ⟨g19, 4, none⟩ (.int .i64 (4 * (c - a)))).setCell ⟨g19, 5, none⟩ (.slice A2 N cp2)) := ⟨_, rfl⟩
        rw [← eY] at hHeld ⊢
        replace k_r : X23.heap[w.heap.size]? = some (.cells #[.int .i64 a, .int .i64 b, .int .i64 c, .int .i64 d] 23 (0, 0)) := by rw [eY]; exact (bks ne_r_n18 (bks ne_r_n18 (bks ne_r_n18 (bks ne_r_n18 (bks ne_r_n18 (bks ne_r_n18 k_r))))))
        replace k_c : X23.heap[w.heap.size + 1]? = some (.cells #[.int .i64 z.a, .int .i64 z.b, .int .i64 z.c, .int .i64 z.d] 44 (0, 0)) := by rw [eY]; exact (bks ne_c_n18 (bks ne_c_n18 (bks ne_c_n18 (bks ne_c_n18 (bks ne_c_n18 (bks ne_c_n18 k_c))))))
        replace k_e : X23.heap[w.heap.size + 2]? = some (.cells #[.int .i64 t.a, .int .i64 t.b, .int .i64 t.c, .int .i64 t.d] 44 (0, 0)) := by rw [eY]; exact (bks ne_e_n18 (bks ne_e_n18 (bks ne_e_n18 (bks ne_e_n18 (bks ne_e_n18 (bks ne_e_n18 k_e))))))
        replace k_q : X23.heap[g_q]? = some (.cells #[.int .i64 a, .int .i64 b, .int .i64 c, .int .i64 d] 25 (0, 0)) := by rw [eY]; exact (bks ne_q_n18 (bks ne_q_n18 (bks ne_q_n18 (bks ne_q_n18 (bks ne_q_n18 (bks ne_q_n18 k_q))))))
        replace bw : Below w.heap.size w X23 := by rw [eY]; exact (bss lo_n18 (bss lo_n18 (bss lo_n18 (bss lo_n18 (bss lo_n18 (bss lo_n18 bw))))))
        replace k_n18 : X23.heap[g19]? = some (.cells #[.int .i64 a, .int .i64 b, .int .i64 c, .int .i64 d, .int .i64 (4 * (c - a)), .slice A2 N cp2] 37 (0, 0)) := by rw [eY]; exact q6s k_n18
        (try replace r1 := Rd.sized (W := X23) (Rd.sset na_r1 (Rd.sset na_r1 (Rd.sset na_r1 (Rd.sset na_r1 (Rd.sset na_r1 (Rd.sset na_r1 r1)))))) eY)
        (try replace r2 := Rd.sized (W := X23) (Rd.sset na_r2 (Rd.sset na_r2 (Rd.sset na_r2 (Rd.sset na_r2 (Rd.sset na_r2 (Rd.sset na_r2 r2)))))) eY)
        clear eY
        refine wpAnyH_done (by kernel_rfl) ?_ _
        go_wp2_with fail
        go_meet
        exact ⟨_, A2, cp2, rfl, k_n18, k_r, k_c, k_e, k_q, r2, bw⟩
    · go_simp
      refine hK.out _ _ ⟨cka hHeld.1, cka hHeld.2.1, cka hHeld.2.2.1, cka hHeld.2.2.2.1, cka hHeld.2.2.2.2.1, cka hHeld.2.2.2.2.2.1, cka hHeld.2.2.2.2.2.2.1, cka hHeld.2.2.2.2.2.2.2.1, cka hHeld.2.2.2.2.2.2.2.2.1, cka hHeld.2.2.2.2.2.2.2.2.2.1, cka hHeld.2.2.2.2.2.2.2.2.2.2.1, cka hHeld.2.2.2.2.2.2.2.2.2.2.2⟩ (fun hHeld => ?_)
      clear hK K
      (try simp only [List.setIfInBounds_toArray, List.set_cons_zero, List.set_cons_succ])
      obtain ⟨X24, g24, eY, eg⟩ : ∃ Y g, Y = X5.alloc (.cells #[.int .i64 0, .int .i64 0, .int .i64 0, .int .i64 0, .int .i64 0, .slice none 0 0] 37) ∧ g = X5.heap.size := ⟨_, _, rfl, rfl⟩
      rw [← eY, ← eg]
      rw [← eY] at hHeld
      have bc : Below X5.heap.size X5 X24 := by rw [eY]; exact (Below.refl _ _).alloc (Nat.le_refl _) _
      have k_n18 : X24.heap[g24]? = some (.cells #[.int .i64 0, .int .i64 0, .int .i64 0, .int .i64 0, .int .i64 0, .slice none 0 0] 37 (0, 0)) := by rw [eY, eg]; exact heap_alloc_new X5 _
      have lo_n18 : w.heap.size ≤ g24 := by rw [eg]; exact bw.size
      have ne_r_n18 : ¬ w.heap.size = g24 := ne_new k_r eg
      have ne_c_n18 : ¬ w.heap.size + 1 = g24 := ne_new k_c eg
      have ne_e_n18 : ¬ w.heap.size + 2 = g24 := ne_new k_e eg
      have ne_q_n18 : ¬ g_q = g24 := ne_new k_q eg
      (try have na_r1 := Rd.ne_new r1 eg)
      (try have na_r2 := Rd.ne_new r2 eg)
      replace k_r := bk bc k_r
      replace k_c := bk bc k_c
      replace k_e := bk bc k_e
      replace k_q := bk bc k_q
      replace bw := bst bc bw
      (try replace r1 := (r1.below bc).more bc.size)
      (try replace r2 := (r2.below bc).more bc.size)
      clear bc eY eg
      refine wpAnyH_ready (rs := [6]) (by kernel_rfl) (by simp) ?_
      refine (AllReadyH.cons rfl (fun K hK => ?_) AllReadyH.nil)
      go_simp
      refine (toColor4 z.a z.b z.c z.d _).mono ?_
      rintro e X25 ⟨rfl, bc⟩
      refine hK.out _ _ ⟨ck bc hHeld.1, ck bc hHeld.2.1, ck bc hHeld.2.2.1, ck bc hHeld.2.2.2.1, ck bc hHeld.2.2.2.2.1, ck bc hHeld.2.2.2.2.2.1, ck bc hHeld.2.2.2.2.2.2.1, ck bc hHeld.2.2.2.2.2.2.2.1, ck bc hHeld.2.2.2.2.2.2.2.2.1, ck bc hHeld.2.2.2.2.2.2.2.2.2.1, ck bc hHeld.2.2.2.2.2.2.2.2.2.2.1, ck bc hHeld.2.2.2.2.2.2.2.2.2.2.2⟩ (fun hHeld => ?_)
      clear hK K
      (try simp only [List.setIfInBounds_toArray, List.set_cons_zero, List.set_cons_succ])
      replace k_r := bk bc k_r
      replace k_c := bk bc k_c
      replace k_e := bk bc k_e
      replace k_q := bk bc k_q
      replace k_n18 := bk bc k_n18
      replace bw := bst bc bw
      (try replace r1 := (r1.below bc).more bc.size)
      (try replace r2 := (r2.below bc).more bc.size)
      clear bc
      refine wpAnyH_ready (rs := [7]) (by kernel_rfl) (by simp) ?_
      refine (AllReadyH.cons rfl (fun K hK => ?_) AllReadyH.nil)
      go_simp
      refine (nrgbaWrite_any a b c d N h3 h4 h5 h6 HN.out n cp Z (zs) x y z _ ((HR.out.below bw).more bw.size)).mono ?_
      rintro e X26 ⟨A1, cp1, rfl, r1, lo1, bc⟩
      refine hK.out _ _ ⟨ck bc hHeld.1, ck bc hHeld.2.1, ck bc hHeld.2.2.1, ck bc hHeld.2.2.2.1, ck bc hHeld.2.2.2.2.1, ck bc hHeld.2.2.2.2.2.1, ck bc hHeld.2.2.2.2.2.2.1, ck bc hHeld.2.2.2.2.2.2.2.1, ck bc hHeld.2.2.2.2.2.2.2.2.1, ck bc hHeld.2.2.2.2.2.2.2.2.2.1, ck bc hHeld.2.2.2.2.2.2.2.2.2.2.1, ck bc hHeld.2.2.2.2.2.2.2.2.2.2.2⟩ (fun hHeld => ?_)
      clear hK K
      (try simp only [List.setIfInBounds_toArray, List.set_cons_zero, List.set_cons_succ])
      have na_r1 := lo_ne (n := N) lo1 k_n18
      replace k_r := bk bc k_r
      replace k_c := bk bc k_c
      replace k_e := bk bc k_e
      replace k_q := bk bc k_q
      replace k_n18 := bk bc k_n18
      replace bw := bst bc bw
      (try replace r1 := (r1.below bc).more bc.size)
      (try replace r2 := (r2.below bc).more bc.size)
      clear bc
      refine takx (i := 8) (D := 46) (v := .slice A1 N cp1) rfl rfl (by kernel_rfl) (by kernel_rfl) (by kernel_rfl) (fun _ _ _ h => h) (Or.inl ⟨by rfl, fun W hSw => by (try dsimp only at hSw); go_simp⟩) (by assumption) ?_
      (try simp only [List.setIfInBounds_toArray, List.set_cons_zero, List.set_cons_succ])
      refine wpAnyH_ready (rs := [12]) (by kernel_rfl) (by simp) ?_
      refine (AllReadyH.cons rfl (fun K hK => ?_) AllReadyH.nil)
      go_simp
      refine (toColor4 t.a t.b t.c t.d _).mono ?_
      rintro e X27 ⟨rfl, bc⟩
      refine hK.out _ _ ⟨ck bc hHeld.1, ck bc hHeld.2.1, ck bc hHeld.2.2.1, ck bc hHeld.2.2.2.1, ck bc hHeld.2.2.2.2.1, ck bc hHeld.2.2.2.2.2.1, ck bc hHeld.2.2.2.2.2.2.1, ck bc hHeld.2.2.2.2.2.2.2.1, ck bc hHeld.2.2.2.2.2.2.2.2.1, ck bc hHeld.2.2.2.2.2.2.2.2.2.1, ck bc hHeld.2.2.2.2.2.2.2.2.2.2.1, ck bc hHeld.2.2.2.2.2.2.2.2.2.2.2⟩ (fun hHeld => ?_)
      clear hK K
      (try simp only [List.setIfInBounds_toArray, List.set_cons_zero, List.set_cons_succ])
      replace k_r := bk bc k_r
      replace k_c := bk bc k_c
      replace k_e := bk bc k_e
      replace k_q := bk bc k_q
      replace k_n18 := bk bc k_n18
      replace bw := bst bc bw
      (try replace r1 := (r1.below bc).more bc.size)
      (try replace r2 := (r2.below bc).more bc.size)
      clear bc
      refine wpAnyH_ready (rs := [13]) (by kernel_rfl) (by simp) ?_
      refine (AllReadyH.cons rfl (fun K hK => ?_) AllReadyH.nil)
      go_simp
      refine (nrgbaWrite_any a b c d N h3 h4 h5 h6 HN.out N cp1 A1 (wrAt (byt N zs) a b c d x y z) u v t _ r1).mono ?_
      rintro e X28 ⟨A2, cp2, rfl, r2, lo2, bc⟩
      refine hK.out _ _ ⟨ck bc hHeld.1, ck bc hHeld.2.1, ck bc hHeld.2.2.1, ck bc hHeld.2.2.2.1, ck bc hHeld.2.2.2.2.1, ck bc hHeld.2.2.2.2.2.1, ck bc hHeld.2.2.2.2.2.2.1, ck bc hHeld.2.2.2.2.2.2.2.1, ck bc hHeld.2.2.2.2.2.2.2.2.1, ck bc hHeld.2.2.2.2.2.2.2.2.2.1, ck bc hHeld.2.2.2.2.2.2.2.2.2.2.1, ck bc hHeld.2.2.2.2.2.2.2.2.2.2.2⟩ (fun hHeld => ?_)
      clear hK K
      (try simp only [List.setIfInBounds_toArray, List.set_cons_zero, List.set_cons_succ])
      have na_r2 := lo_ne (n := N) lo2 k_n18
      replace k_r := bk bc k_r
      replace k_c := bk bc k_c
      replace k_e := bk bc k_e
      replace k_q := bk bc k_q
      replace k_n18 := bk bc k_n18
      replace bw := bst bc bw
      (try replace r1 := (r1.below bc).more bc.size)
      (try replace r2 := (r2.below bc).more bc.size)
      clear bc
      refine wpAnyH_ready (rs := [15]) (by kernel_rfl) (by simp) ?_
      refine (AllReadyH.cons rfl (fun K hK => ?_) AllReadyH.nil)
      have qq := q6c k_n18
      go_simp
      clear qq
      refine hK.out _ _ ⟨(cks ne_q_n18 (cks ne_q_n18 (cks ne_q_n18 (cks ne_q_n18 (cks ne_q_n18 (cks ne_q_n18 hHeld.1)))))), (cks ne_q_n18 (cks ne_q_n18 (cks ne_q_n18 (cks ne_q_n18 (cks ne_q_n18 (cks ne_q_n18 hHeld.2.1)))))), (cks ne_q_n18 (cks ne_q_n18 (cks ne_q_n18 (cks ne_q_n18 (cks ne_q_n18 (cks ne_q_n18 hHeld.2.2.1)))))), (cks ne_q_n18 (cks ne_q_n18 (cks ne_q_n18 (cks ne_q_n18 (cks ne_q_n18 (cks ne_q_n18 hHeld.2.2.2.1)))))), (cks ne_c_n18 (cks ne_c_n18 (cks ne_c_n18 (cks ne_c_n18 (cks ne_c_n18 (cks ne_c_n18 hHeld.2.2.2.2.1)))))), (cks ne_c_n18 (cks ne_c_n18 (cks ne_c_n18 (cks ne_c_n18 (cks ne_c_n18 (cks ne_c_n18 hHeld.2.2.2.2.2.1)))))), (cks ne_c_n18 (cks ne_c_n18 (cks ne_c_n18 (cks ne_c_n18 (cks ne_c_n18 (cks ne_c_n18 hHeld.2.2.2.2.2.2.1)))))), (cks ne_c_n18 (cks ne_c_n18 (cks ne_c_n18 (cks ne_c_n18 (cks ne_c_n18 (cks ne_c_n18 hHeld.2.2.2.2.2.2.2.1)))))), (cks ne_e_n18 (cks ne_e_n18 (cks ne_e_n18 (cks ne_e_n18 (cks ne_e_n18 (cks ne_e_n18 hHeld.2.2.2.2.2.2.2.2.1)))))), (cks ne_e_n18 (cks ne_e_n18 (cks ne_e_n18 (cks ne_e_n18 (cks ne_e_n18 (cks ne_e_n18 hHeld.2.2.2.2.2.2.2.2.2.1)))))), (cks ne_e_n18 (cks ne_e_n18 (cks ne_e_n18 (cks ne_e_n18 (cks ne_e_n18 (cks ne_e_n18 hHeld.2.2.2.2.2.2.2.2.2.2.1)))))), (cks ne_e_n18 (cks ne_e_n18 (cks ne_e_n18 (cks ne_e_n18 (cks ne_e_n18 (cks ne_e_n18 hHeld.2.2.2.2.2.2.2.2.2.2.2))))))⟩ (fun hHeld => ?_)
      clear hK K
      (try simp only [List.setIfInBounds_toArray, List.set_cons_zero, List.set_cons_succ])
      obtain ⟨X29, eY⟩ : ∃ Y, Y = ((((((X28.setCell ⟨g24, 0, none⟩ (.int .i64 a)).setCell ⟨g24, 1, none⟩ (.int .i64 b)).setCell ⟨g24, 2, none⟩ (.int .i64 c)).setCell ⟨g24, 3, none⟩ (.int .i64 d)).setCell ⟨g24, 4, none⟩ (.int .i64 (4 * (c - a)))).setCell ⟨g24, 5, none⟩ (.slice A2 N cp2)) := ⟨_, rfl⟩
      rw [← eY] at hHeld ⊢
      replace k_r : X29.heap[w.heap.size]? = some (.cells #[.int .i64 a, .int .i64 b, .int .i64 c, .int .i64 d] 23 (0, 0)) := by rw [eY]; exact (bks ne_r_n18 (bks ne_r_n18 (bks ne_r_n18 (bks ne_r_n18 (bks ne_r_n18 (bks ne_r_n18 k_r))))))
      replace k_c : X29.heap[w.heap.size + 1]? = some (.cells #[.int .i64 z.a, .int .i64 z.b, .int .i64 z.c, .int .i64 z.d] 44 (0, 0)) := by rw [eY]; exact (bks ne_c_n18 (bks ne_c_n18 (bks ne_c_n18 (bks ne_c_n18 (bks ne_c_n18 (bks ne_c_n18 k_c))))))
      replace k_e : X29.heap[w.heap.size + 2]? = some (.cells #[.int .i64 t.a, .int .i64 t.b, .int .i64 t.c, .int .i64 t.d] 44 (0, 0)) := by rw [eY]; exact (bks ne_e_n18 (bks ne_e_n18 (bks ne_e_n18 (bks ne_e_n18 (bks ne_e_n18 (bks ne_e_n18 k_e))))))
      replace k_q : X29.heap[g_q]? = some (.cells #[.int .i64 a, .int .i64 b, .int .i64 c, .int .i64 d] 25 (0, 0)) := by rw [eY]; exact (bks ne_q_n18 (bks ne_q_n18 (bks ne_q_n18 (bks ne_q_n18 (bks ne_q_n18 (bks ne_q_n18 k_q))))))
      replace bw : Below w.heap.size w X29 := by rw [eY]; exact (bss lo_n18 (bss lo_n18 (bss lo_n18 (bss lo_n18 (bss lo_n18 (bss lo_n18 bw))))))
      replace k_n18 : X29.heap[g24]? = some (.cells #[.int .i64 a, .int .i64 b, .int .i64 c, .int .i64 d, .int .i64 (4 * (c - a)), .slice A2 N cp2] 37 (0, 0)) := by rw [eY]; exact q6s k_n18
      (try replace r1 := Rd.sized (W := X29) (Rd.sset na_r1 (Rd.sset na_r1 (Rd.sset na_r1 (Rd.sset na_r1 (Rd.sset na_r1 (Rd.sset na_r1 r1)))))) eY)
      (try replace r2 := Rd.sized (W := X29) (Rd.sset na_r2 (Rd.sset na_r2 (Rd.sset na_r2 (Rd.sset na_r2 (Rd.sset na_r2 (Rd.sset na_r2 r2)))))) eY)
      clear eY
      refine wpAnyH_done (by kernel_rfl) ?_ _
      go_wp2_with fail
      go_meet
      exact ⟨_, A2, cp2, rfl, k_n18, k_r, k_c, k_e, k_q, r2, bw⟩
  case rest =>
    clear k_r k_c k_e k_q bw
    obtain ⟨g_p, A2, cp2, rfl, k_p, k_r, k_c, k_e, k_q, R2, BW⟩ := hcut
    have bw := BW.out
    clear BW
    have r2 := R2.out
    clear R2
    have q_r := q4c k_r
    have q_c := q4c k_c
    have q_e := q4c k_e
    have q_q := q4c k_q
    have q_p := q6c k_p
    go_upto_region 9 with fail
    clear q_r q_c q_e q_q q_p
    refine wp_region_held_drew (S := fun w' => w'.cell? ⟨g_q, 0, none⟩ = some (.int .i64 a) ∧ w'.cell? ⟨g_q, 1, none⟩ = some (.int .i64 b) ∧ w'.cell? ⟨g_q, 2, none⟩ = some (.int .i64 c) ∧ w'.cell? ⟨g_q, 3, none⟩ = some (.int .i64 d) ∧ w'.cell? ⟨w.heap.size + 1, 0, none⟩ = some (.int .i64 z.a) ∧ w'.cell? ⟨w.heap.size + 1, 1, none⟩ = some (.int .i64 z.b) ∧ w'.cell? ⟨w.heap.size + 1, 2, none⟩ = some (.int .i64 z.c) ∧ w'.cell? ⟨w.heap.size + 1, 3, none⟩ = some (.int .i64 z.d) ∧ w'.cell? ⟨w.heap.size + 2, 0, none⟩ = some (.int .i64 t.a) ∧ w'.cell? ⟨w.heap.size + 2, 1, none⟩ = some (.int .i64 t.b) ∧ w'.cell? ⟨w.heap.size + 2, 2, none⟩ = some (.int .i64 t.c) ∧ w'.cell? ⟨w.heap.size + 2, 3, none⟩ = some (.int .i64 t.d) ∧ w'.cell? ⟨g_p, 0, none⟩ = some (.int .i64 a) ∧ w'.cell? ⟨g_p, 1, none⟩ = some (.int .i64 b) ∧ w'.cell? ⟨g_p, 2, none⟩ = some (.int .i64 c) ∧ w'.cell? ⟨g_p, 3, none⟩ = some (.int .i64 d) ∧ w'.cell? ⟨g_p, 4, none⟩ = some (.int .i64 (4 * (c - a))) ∧ w'.cell? ⟨g_p, 5, none⟩ = some (.slice A2 N cp2)) (by kernel_rfl) ⟨(q4c k_q).1.1, (q4c k_q).1.2.1, (q4c k_q).1.2.2.1, (q4c k_q).1.2.2.2, (q4c k_c).1.1, (q4c k_c).1.2.1, (q4c k_c).1.2.2.1, (q4c k_c).1.2.2.2, (q4c k_e).1.1, (q4c k_e).1.2.1, (q4c k_e).1.2.2.1, (q4c k_e).1.2.2.2, (q6c k_p).1.1, (q6c k_p).1.2.1, (q6c k_p).1.2.2.1, (q6c k_p).1.2.2.2.1, (q6c k_p).1.2.2.2.2.1, (q6c k_p).1.2.2.2.2.2⟩ ?_
    intro hHeld
    obtain ⟨X31, eX, bc⟩ : ∃ X, X = wc.drew ∧ Below wc.heap.size wc X := ⟨_, rfl, (Below.refl _ _).drew⟩
    rw [← eX] at hHeld ⊢
    replace k_r := bk bc k_r
    replace k_c := bk bc k_c
    replace k_e := bk bc k_e
    replace k_q := bk bc k_q
    replace k_p := bk bc k_p
    replace bw := bst bc bw
    (try replace r2 := (r2.below bc).more bc.size)
    (try replace r3 := (r3.below bc).more bc.size)
    (try replace r4 := (r4.below bc).more bc.size)
    clear eX bc
    refine takx (i := 0) (D := 73) (v := .agg #[.int .i64 a, .int .i64 b, .int .i64 c, .int .i64 d, .int .i64 (4 * (c - a)), .slice A2 N cp2]) rfl rfl (by kernel_rfl) (by kernel_rfl) (by kernel_rfl) (fun _ _ _ h => h) (Or.inl ⟨by rfl, fun W hSw => by (try dsimp only at hSw); go_simp⟩) (by assumption) ?_
    (try simp only [List.setIfInBounds_toArray, List.set_cons_zero, List.set_cons_succ])
    refine takx (i := 1) (D := 74) (v := .agg #[.int .i64 a, .int .i64 b, .int .i64 c, .int .i64 d]) rfl rfl (by kernel_rfl) (by kernel_rfl) (by kernel_rfl) (fun _ _ _ h => h) (Or.inl ⟨by rfl, fun W hSw => by (try dsimp only at hSw); go_simp⟩) (by assumption) ?_
    (try simp only [List.setIfInBounds_toArray, List.set_cons_zero, List.set_cons_succ])
    refine takx (i := 2) (D := 75) (v := .agg #[.int .i64 a, .int .i64 b, .int .i64 c, .int .i64 d]) rfl rfl (by kernel_rfl) (by kernel_rfl) (by kernel_rfl) (fun _ _ _ h => h) (Or.inl ⟨by rfl, fun W hSw => by (try dsimp only at hSw); go_simp⟩) (by assumption) ?_
    (try simp only [List.setIfInBounds_toArray, List.set_cons_zero, List.set_cons_succ])
    refine takx (i := 3) (D := 76) (v := .slice Z n cp) rfl rfl (by kernel_rfl) (by kernel_rfl) (by kernel_rfl) (fun _ _ _ h => h) (Or.inl ⟨by rfl, fun W hSw => by (try dsimp only at hSw); go_simp⟩) (by assumption) ?_
    (try simp only [List.setIfInBounds_toArray, List.set_cons_zero, List.set_cons_succ])
    refine takx (i := 4) (D := 77) (v := .int .i64 u) rfl rfl (by kernel_rfl) (by kernel_rfl) (by kernel_rfl) (fun _ _ _ h => h) (Or.inl ⟨by rfl, fun W hSw => by (try dsimp only at hSw); go_simp⟩) (by assumption) ?_
    (try simp only [List.setIfInBounds_toArray, List.set_cons_zero, List.set_cons_succ])
    refine takx (i := 5) (D := 78) (v := .int .i64 v) rfl rfl (by kernel_rfl) (by kernel_rfl) (by kernel_rfl) (fun _ _ _ h => h) (Or.inl ⟨by rfl, fun W hSw => by (try dsimp only at hSw); go_simp⟩) (by assumption) ?_
    (try simp only [List.setIfInBounds_toArray, List.set_cons_zero, List.set_cons_succ])
    refine takx (i := 6) (D := 79) (v := .agg #[.int .i64 t.a, .int .i64 t.b, .int .i64 t.c, .int .i64 t.d]) rfl rfl (by kernel_rfl) (by kernel_rfl) (by kernel_rfl) (fun _ _ _ h => h) (Or.inl ⟨by rfl, fun W hSw => by (try dsimp only at hSw); go_simp⟩) (by assumption) ?_
    (try simp only [List.setIfInBounds_toArray, List.set_cons_zero, List.set_cons_succ])
    refine takx (i := 10) (D := 83) (v := .int .i64 x) rfl rfl (by kernel_rfl) (by kernel_rfl) (by kernel_rfl) (fun _ _ _ h => h) (Or.inl ⟨by rfl, fun W hSw => by (try dsimp only at hSw); go_simp⟩) (by assumption) ?_
    (try simp only [List.setIfInBounds_toArray, List.set_cons_zero, List.set_cons_succ])
    refine takx (i := 11) (D := 84) (v := .int .i64 y) rfl rfl (by kernel_rfl) (by kernel_rfl) (by kernel_rfl) (fun _ _ _ h => h) (Or.inl ⟨by rfl, fun W hSw => by (try dsimp only at hSw); go_simp⟩) (by assumption) ?_
    (try simp only [List.setIfInBounds_toArray, List.set_cons_zero, List.set_cons_succ])
    refine takx (i := 12) (D := 85) (v := .agg #[.int .i64 z.a, .int .i64 z.b, .int .i64 z.c, .int .i64 z.d]) rfl rfl (by kernel_rfl) (by kernel_rfl) (by kernel_rfl) (fun _ _ _ h => h) (Or.inl ⟨by rfl, fun W hSw => by (try dsimp only at hSw); go_simp⟩) (by assumption) ?_
    (try simp only [List.setIfInBounds_toArray, List.set_cons_zero, List.set_cons_succ])
    refine wpAnyH_ready (rs := [7]) (by kernel_rfl) (by simp) ?_
    refine (AllReadyH.cons rfl (fun K hK => ?_) AllReadyH.nil)
    go_simp
    refine (toColor4 t.a t.b t.c t.d _).mono ?_
    rintro e X32 ⟨rfl, bc⟩
    refine hK.out _ _ ⟨ck bc hHeld.1, ck bc hHeld.2.1, ck bc hHeld.2.2.1, ck bc hHeld.2.2.2.1, ck bc hHeld.2.2.2.2.1, ck bc hHeld.2.2.2.2.2.1, ck bc hHeld.2.2.2.2.2.2.1, ck bc hHeld.2.2.2.2.2.2.2.1, ck bc hHeld.2.2.2.2.2.2.2.2.1, ck bc hHeld.2.2.2.2.2.2.2.2.2.1, ck bc hHeld.2.2.2.2.2.2.2.2.2.2.1, ck bc hHeld.2.2.2.2.2.2.2.2.2.2.2.1, ck bc hHeld.2.2.2.2.2.2.2.2.2.2.2.2.1, ck bc hHeld.2.2.2.2.2.2.2.2.2.2.2.2.2.1, ck bc hHeld.2.2.2.2.2.2.2.2.2.2.2.2.2.2.1, ck bc hHeld.2.2.2.2.2.2.2.2.2.2.2.2.2.2.2.1, ck bc hHeld.2.2.2.2.2.2.2.2.2.2.2.2.2.2.2.2.1, ck bc hHeld.2.2.2.2.2.2.2.2.2.2.2.2.2.2.2.2.2⟩ (fun hHeld => ?_)
    clear hK K
    (try simp only [List.setIfInBounds_toArray, List.set_cons_zero, List.set_cons_succ])
    replace k_r := bk bc k_r
    replace k_c := bk bc k_c
    replace k_e := bk bc k_e
    replace k_q := bk bc k_q
    replace k_p := bk bc k_p
    replace bw := bst bc bw
    (try replace r2 := (r2.below bc).more bc.size)
    (try replace r3 := (r3.below bc).more bc.size)
    (try replace r4 := (r4.below bc).more bc.size)
    clear bc
    refine wpAnyH_ready (rs := [8]) (by kernel_rfl) (by simp) ?_
    refine (AllReadyH.cons rfl (fun K hK => ?_) AllReadyH.nil)
    go_simp
    refine (nrgbaWrite_any a b c d N h3 h4 h5 h6 HN.out n cp Z (zs) u v t _ ((HR.out.below bw).more bw.size)).mono ?_
    rintro e X33 ⟨A3, cp3, rfl, r3, lo3, bc⟩
    refine hK.out _ _ ⟨ck bc hHeld.1, ck bc hHeld.2.1, ck bc hHeld.2.2.1, ck bc hHeld.2.2.2.1, ck bc hHeld.2.2.2.2.1, ck bc hHeld.2.2.2.2.2.1, ck bc hHeld.2.2.2.2.2.2.1, ck bc hHeld.2.2.2.2.2.2.2.1, ck bc hHeld.2.2.2.2.2.2.2.2.1, ck bc hHeld.2.2.2.2.2.2.2.2.2.1, ck bc hHeld.2.2.2.2.2.2.2.2.2.2.1, ck bc hHeld.2.2.2.2.2.2.2.2.2.2.2.1, ck bc hHeld.2.2.2.2.2.2.2.2.2.2.2.2.1, ck bc hHeld.2.2.2.2.2.2.2.2.2.2.2.2.2.1, ck bc hHeld.2.2.2.2.2.2.2.2.2.2.2.2.2.2.1, ck bc hHeld.2.2.2.2.2.2.2.2.2.2.2.2.2.2.2.1, ck bc hHeld.2.2.2.2.2.2.2.2.2.2.2.2.2.2.2.2.1, ck bc hHeld.2.2.2.2.2.2.2.2.2.2.2.2.2.2.2.2.2⟩ (fun hHeld => ?_)
    clear hK K
    (try simp only [List.setIfInBounds_toArray, List.set_cons_zero, List.set_cons_succ])
    replace k_r := bk bc k_r
    replace k_c := bk bc k_c
    replace k_e := bk bc k_e
    replace k_q := bk bc k_q
    replace k_p := bk bc k_p
    replace bw := bst bc bw
    (try replace r2 := (r2.below bc).more bc.size)
    (try replace r3 := (r3.below bc).more bc.size)
    (try replace r4 := (r4.below bc).more bc.size)
    clear bc
    refine takx (i := 9) (D := 82) (v := .slice A3 N cp3) rfl rfl (by kernel_rfl) (by kernel_rfl) (by kernel_rfl) (fun _ _ _ h => h) (Or.inl ⟨by rfl, fun W hSw => by (try dsimp only at hSw); go_simp⟩) (by assumption) ?_
    (try simp only [List.setIfInBounds_toArray, List.set_cons_zero, List.set_cons_succ])
    refine wpAnyH_ready (rs := [13]) (by kernel_rfl) (by simp) ?_
    refine (AllReadyH.cons rfl (fun K hK => ?_) AllReadyH.nil)
    go_simp
    refine (toColor4 z.a z.b z.c z.d _).mono ?_
    rintro e X34 ⟨rfl, bc⟩
    refine hK.out _ _ ⟨ck bc hHeld.1, ck bc hHeld.2.1, ck bc hHeld.2.2.1, ck bc hHeld.2.2.2.1, ck bc hHeld.2.2.2.2.1, ck bc hHeld.2.2.2.2.2.1, ck bc hHeld.2.2.2.2.2.2.1, ck bc hHeld.2.2.2.2.2.2.2.1, ck bc hHeld.2.2.2.2.2.2.2.2.1, ck bc hHeld.2.2.2.2.2.2.2.2.2.1, ck bc hHeld.2.2.2.2.2.2.2.2.2.2.1, ck bc hHeld.2.2.2.2.2.2.2.2.2.2.2.1, ck bc hHeld.2.2.2.2.2.2.2.2.2.2.2.2.1, ck bc hHeld.2.2.2.2.2.2.2.2.2.2.2.2.2.1, ck bc hHeld.2.2.2.2.2.2.2.2.2.2.2.2.2.2.1, ck bc hHeld.2.2.2.2.2.2.2.2.2.2.2.2.2.2.2.1, ck bc hHeld.2.2.2.2.2.2.2.2.2.2.2.2.2.2.2.2.1, ck bc hHeld.2.2.2.2.2.2.2.2.2.2.2.2.2.2.2.2.2⟩ (fun hHeld => ?_)
    clear hK K
    (try simp only [List.setIfInBounds_toArray, List.set_cons_zero, List.set_cons_succ])
    replace k_r := bk bc k_r
    replace k_c := bk bc k_c
    replace k_e := bk bc k_e
    replace k_q := bk bc k_q
    replace k_p := bk bc k_p
    replace bw := bst bc bw
    (try replace r2 := (r2.below bc).more bc.size)
    (try replace r3 := (r3.below bc).more bc.size)
    (try replace r4 := (r4.below bc).more bc.size)
    clear bc
    refine wpAnyH_ready (rs := [14]) (by kernel_rfl) (by simp) ?_
    refine (AllReadyH.cons rfl (fun K hK => ?_) AllReadyH.nil)
    go_simp
    refine (nrgbaWrite_any a b c d N h3 h4 h5 h6 HN.out N cp3 A3 (wrAt (byt N zs) a b c d u v t) x y z _ r3).mono ?_
    rintro e X35 ⟨A4, cp4, rfl, r4, lo4, bc⟩
    refine hK.out _ _ ⟨ck bc hHeld.1, ck bc hHeld.2.1, ck bc hHeld.2.2.1, ck bc hHeld.2.2.2.1, ck bc hHeld.2.2.2.2.1, ck bc hHeld.2.2.2.2.2.1, ck bc hHeld.2.2.2.2.2.2.1, ck bc hHeld.2.2.2.2.2.2.2.1, ck bc hHeld.2.2.2.2.2.2.2.2.1, ck bc hHeld.2.2.2.2.2.2.2.2.2.1, ck bc hHeld.2.2.2.2.2.2.2.2.2.2.1, ck bc hHeld.2.2.2.2.2.2.2.2.2.2.2.1, ck bc hHeld.2.2.2.2.2.2.2.2.2.2.2.2.1, ck bc hHeld.2.2.2.2.2.2.2.2.2.2.2.2.2.1, ck bc hHeld.2.2.2.2.2.2.2.2.2.2.2.2.2.2.1, ck bc hHeld.2.2.2.2.2.2.2.2.2.2.2.2.2.2.2.1, ck bc hHeld.2.2.2.2.2.2.2.2.2.2.2.2.2.2.2.2.1, ck bc hHeld.2.2.2.2.2.2.2.2.2.2.2.2.2.2.2.2.2⟩ (fun hHeld => ?_)
    clear hK K
    (try simp only [List.setIfInBounds_toArray, List.set_cons_zero, List.set_cons_succ])
    replace k_r := bk bc k_r
    replace k_c := bk bc k_c
    replace k_e := bk bc k_e
    replace k_q := bk bc k_q
    replace k_p := bk bc k_p
    replace bw := bst bc bw
    (try replace r2 := (r2.below bc).more bc.size)
    (try replace r3 := (r3.below bc).more bc.size)
    (try replace r4 := (r4.below bc).more bc.size)
    clear bc
    refine wpAnyH_ready (rs := [15]) (by kernel_rfl) (by simp) ?_
    refine (AllReadyH.cons rfl (fun K hK => ?_) AllReadyH.nil)
    go_simp
    refine (samePic_true _ _ _ _ _ _ _ _ _ _ (wrAt (wrAt (byt N zs) a b c d u v t) a b c d x y z) _ (by have := r2; rw [(byt_self (by rw [wrAt_length, byt_length]) (wrAt_ok (byt_ok _ _))), wr_wr_other HN.out HI.out HJ.out HXY.out] at this; exact this) (by have := r4; rw [(byt_self (by rw [wrAt_length, byt_length]) (wrAt_ok (byt_ok _ _)))] at this; exact this)).mono ?_
    rintro e X36 ⟨rfl, bc⟩
    refine hK.out _ _ ⟨ck bc hHeld.1, ck bc hHeld.2.1, ck bc hHeld.2.2.1, ck bc hHeld.2.2.2.1, ck bc hHeld.2.2.2.2.1, ck bc hHeld.2.2.2.2.2.1, ck bc hHeld.2.2.2.2.2.2.1, ck bc hHeld.2.2.2.2.2.2.2.1, ck bc hHeld.2.2.2.2.2.2.2.2.1, ck bc hHeld.2.2.2.2.2.2.2.2.2.1, ck bc hHeld.2.2.2.2.2.2.2.2.2.2.1, ck bc hHeld.2.2.2.2.2.2.2.2.2.2.2.1, ck bc hHeld.2.2.2.2.2.2.2.2.2.2.2.2.1, ck bc hHeld.2.2.2.2.2.2.2.2.2.2.2.2.2.1, ck bc hHeld.2.2.2.2.2.2.2.2.2.2.2.2.2.2.1, ck bc hHeld.2.2.2.2.2.2.2.2.2.2.2.2.2.2.2.1, ck bc hHeld.2.2.2.2.2.2.2.2.2.2.2.2.2.2.2.2.1, ck bc hHeld.2.2.2.2.2.2.2.2.2.2.2.2.2.2.2.2.2⟩ (fun hHeld => ?_)
    clear hK K
    (try simp only [List.setIfInBounds_toArray, List.set_cons_zero, List.set_cons_succ])
    replace k_r := bk bc k_r
    replace k_c := bk bc k_c
    replace k_e := bk bc k_e
    replace k_q := bk bc k_q
    replace k_p := bk bc k_p
    replace bw := bst bc bw
    (try replace r2 := (r2.below bc).more bc.size)
    (try replace r3 := (r3.below bc).more bc.size)
    (try replace r4 := (r4.below bc).more bc.size)
    clear bc
    refine takx (i := 16) (D := 16) (v := .bool true) rfl rfl (by kernel_rfl) (by kernel_rfl) (by kernel_rfl) (fun _ _ _ h => h) (Or.inl ⟨by rfl, fun W hSw => by (try dsimp only at hSw); go_simp⟩) (by assumption) ?_
    (try simp only [List.setIfInBounds_toArray, List.set_cons_zero, List.set_cons_succ])
    refine wpAnyH_done (by kernel_rfl) ?_ _
    clear hHeld
    go_wp2
    go_ret
    exact ⟨rfl, bw⟩

end Go.Proofs.Ytkhofahobcegiaa

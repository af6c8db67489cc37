/-
  The walk of the law FnGrayPartOfPart, a part of its cases. No condition.
-/
import Derived.Test.YtpijljokcoocpaaGH
import Derived.Test.YtpijljokcoocpaaR6
namespace Go.Proofs.Ytpijljokcoocpaa
open Go.ChangeShapes Go.WideShapes Go.ChangeAt Go.RowKit
set_option linter.unusedVariables false
set_option linter.unusedSimpArgs false

theorem ins_no {v : Option Q4} {s : Stp} (h1 : s.k ≠ 1) (h2 : s.k ≠ 2) (h3 : s.k ≠ 3) : InsS v s := fun h => by rcases h with h | h | h <;> contradiction
theorem ins_yes {v : Option Q4} {s : Stp} (h : Vis v s.x s.y) : InsS v s := fun _ => h
theorem com_self {R q : Q4} (hl : Lies R q) (h1 : q.a < q.c) (h2 : q.b < q.d) : com R q = some q := by
  obtain ⟨l1, l2, l3, l4⟩ := hl
  have e1 : gmax q.a R.a = q.a := by unfold gmax; split <;> omega
  have e2 : gmax q.b R.b = q.b := by unfold gmax; split <;> omega
  have e3 : lmin q.c R.c = q.c := by unfold lmin; split <;> omega
  have e4 : lmin q.d R.d = q.d := by unfold lmin; split <;> omega
  unfold com
  rw [e1, e2, e3, e4, if_pos ⟨h1, h2⟩]
theorem off_zero {R q : Q4} {c r : Q4} : offv R (some q) ⟨3, q.a, q.b, c, r⟩ = 0 := by
  unfold offv
  dsimp only
  rw [Int.sub_self, Int.zero_mul, Int.sub_self]
  rfl
theorem same_b (A1 A2 : Option Addr) (n c1 c2 : Nat) (zs : List Int) (w : World) (h1 : Rd w w.heap.size A1 n zs) (h2 : Rd w w.heap.size A2 n zs) :
    Calls Try.prog 46 #[.slice A1 n c1, .slice A2 n c2] w fun e w' => e = .returned (.bool true) ∧ Below w.heap.size w w' :=
  (same_true A1 A2 n c1 c2 _ _ zs w h1 h2).mono fun _ _ ⟨h, k, hk⟩ => ⟨h, by rw [hk]; exact below_drewN (Below.refl _ _) k⟩
theorem Rd.of_block1 {X : World} {g : Nat} {t : TypeId} (h : X.heap[g]? = some (.cells #[.int .i64 0] t (0, 0))) : Rd X X.heap.size (some ⟨g, 0, none⟩) 1 [0] :=
  ⟨rfl, by omega, fun z hz => by rw [List.mem_singleton.1 hz]; exact zero_ok, fun _ => ⟨g, 0, rfl, lt_of_block h, fun j hj => by
    obtain rfl : j = 0 := by omega
    exact cell_of_row X g 0 _ _ (0, 0) h⟩⟩

set_option maxRecDepth 100000 in
set_option maxHeartbeats 8000000 in
theorem fnGrayPartOfPart_main (w : World) (q : Q4) (hq : q.ok) (Z : Option Addr) (n cp : Nat) (zs : List Int) (hr : Rd w w.heap.size Z n zs) (s : Q4) (hs : s.ok) (u : Q4) (hu : u.ok) (x : Int) (hx : I64 x) (y : Int) (hy : I64 y) (hf : Fine q.a q.b q.c q.d) (p1 : Q4) (hc1 : com q s = some p1) (p2 : Q4) (hc2 : com p1 u = some p2) (hin : In p2.a p2.b p2.c p2.d x y) :
    Calls Try.prog 19 #[q.val, .slice Z n cp, s.val, u.val, .int .i64 x, .int .i64 y] w fun e w' => e = .returned (.bool true) ∧ Below w.heap.size w w' := by
  obtain ⟨a, b, c, d⟩ := q
  obtain ⟨ha, hb, hc, hd⟩ := hq
  show Calls Try.prog 19 #[.agg #[.int .i64 a, .int .i64 b, .int .i64 c, .int .i64 d], .slice Z n cp, .agg #[.int .i64 s.a, .int .i64 s.b, .int .i64 s.c, .int .i64 s.d], .agg #[.int .i64 u.a, .int .i64 u.b, .int .i64 u.c, .int .i64 u.d], .int .i64 x, .int .i64 y] w _
  have hrs := rect_same a b c d
  have hrd := rect_diff a b c d
  have hp0 := fun st v => pfld0 a b c d st v
  have hp2 := fun st A n cp => pfld2 a b c d st A n cp
  have HR := Lib.hid hr
  clear hr
  obtain ⟨h3, h4, h5, h6, N, hN⟩ := fine_area hf
  have HF := Lib.hid hf
  have HN := Lib.hid hN
  clear hf hN
  have HC1 := Lib.hid hc1
  clear hc1
  have HC2 := Lib.hid hc2
  clear hc2
  have HI := Lib.hid hin
  clear hin
  obtain ⟨q1, q2, hL2⟩ := (com_some HC2.out).2
  have hL1 := (com_some HC1.out).2.2.2
  have hL : Lies ⟨a, b, c, d⟩ p2 := hL1.trans hL2
  have hR : In a b c d x y := hL.inn HI.out
  have hP : In p2.a p2.b p2.c p2.d p2.a p2.b := ⟨Int.le_refl _, q1, Int.le_refl _, q2⟩
  have p2ok : p2.ok := by
    obtain ⟨l1, l2, l3, l4⟩ := hL
    obtain ⟨f1, f2, f3, f4, _⟩ := HF.out
    dsimp only at l1 l2 l3 l4 f1 f2 f3 f4
    refine ⟨?_, ?_, ?_, ?_⟩ <;> (unfold I64; omega)
  have OK1 := Lib.hid (show ∀ w ∈ [(⟨4, 0, 0, ⟨0, 0, 0, 0⟩, s⟩ : Stp), ⟨4, 0, 0, ⟨0, 0, 0, 0⟩, u⟩, ⟨2, x, y, ⟨0, 0, 0, 0⟩, ⟨0, 0, 0, 0⟩⟩, ⟨3, p2.a, p2.b, ⟨0, 0, 0, 0⟩, ⟨0, 0, 0, 0⟩⟩], w.ok by
    intro w hw
    simp only [List.mem_cons, List.not_mem_nil, or_false] at hw
    rcases hw with rfl | rfl | rfl | rfl <;> (refine ⟨?_, ?_, ?_, ?_, ?_⟩ <;> first | assumption | exact p2ok.1 | exact p2ok.2.1 | exact ⟨zero_ok, zero_ok, zero_ok, zero_ok⟩ | (unfold I64; dsimp only; omega)))
  have OK2 := Lib.hid (show ∀ w ∈ [(⟨4, 0, 0, ⟨0, 0, 0, 0⟩, p2⟩ : Stp), ⟨2, x, y, ⟨0, 0, 0, 0⟩, ⟨0, 0, 0, 0⟩⟩, ⟨3, p2.a, p2.b, ⟨0, 0, 0, 0⟩, ⟨0, 0, 0, 0⟩⟩], w.ok by
    intro w hw
    simp only [List.mem_cons, List.not_mem_nil, or_false] at hw
    rcases hw with rfl | rfl | rfl <;> (refine ⟨?_, ?_, ?_, ?_, ?_⟩ <;> first | assumption | exact p2ok.1 | exact p2ok.2.1 | exact ⟨zero_ok, zero_ok, zero_ok, zero_ok⟩ | (unfold I64; dsimp only; omega)))
  have HS2 := com_self hL q1 q2
  have E1 := Lib.hid (show (grun ⟨a, b, c, d⟩ (gini ⟨a, b, c, d⟩ (byt N zs)) [⟨4, 0, 0, ⟨0, 0, 0, 0⟩, s⟩, ⟨4, 0, 0, ⟨0, 0, 0, 0⟩, u⟩, ⟨2, x, y, ⟨0, 0, 0, 0⟩, ⟨0, 0, 0, 0⟩⟩, ⟨3, p2.a, p2.b, ⟨0, 0, 0, 0⟩, ⟨0, 0, 0, 0⟩⟩]).cs = [rdAt (byt N zs) a b c d x y] ∧ (grun ⟨a, b, c, d⟩ (gini ⟨a, b, c, d⟩ (byt N zs)) [⟨4, 0, 0, ⟨0, 0, 0, 0⟩, s⟩, ⟨4, 0, 0, ⟨0, 0, 0, 0⟩, u⟩, ⟨2, x, y, ⟨0, 0, 0, 0⟩, ⟨0, 0, 0, 0⟩⟩, ⟨3, p2.a, p2.b, ⟨0, 0, 0, 0⟩, ⟨0, 0, 0, 0⟩⟩]).ins ∧ (grun ⟨a, b, c, d⟩ (gini ⟨a, b, c, d⟩ (byt N zs)) [⟨4, 0, 0, ⟨0, 0, 0, 0⟩, s⟩, ⟨4, 0, 0, ⟨0, 0, 0, 0⟩, u⟩, ⟨2, x, y, ⟨0, 0, 0, 0⟩, ⟨0, 0, 0, 0⟩⟩, ⟨3, p2.a, p2.b, ⟨0, 0, 0, 0⟩, ⟨0, 0, 0, 0⟩⟩]).os = [0] by
    rw [run_cons, gstep4 _ _ _ rfl, run_cons, gstep4 _ _ _ rfl, run_cons, gstep2 _ _ _ rfl, run_cons, gstep3 _ _ _ rfl, run_nil]
    simp only [gini, Option.bind_some, HC1.out, HC2.out, List.nil_append]
    rw [seen_in HI.out, off_zero]
    exact ⟨rfl, ⟨⟨⟨⟨trivial, ins_no (by dsimp only; decide) (by dsimp only; decide) (by dsimp only; decide)⟩, ins_no (by dsimp only; decide) (by dsimp only; decide) (by dsimp only; decide)⟩, ins_yes (vis_some.2 HI.out)⟩, ins_yes (vis_some.2 hP)⟩, rfl⟩)
  have E2 := Lib.hid (show (grun ⟨a, b, c, d⟩ (gini ⟨a, b, c, d⟩ (byt N zs)) [⟨4, 0, 0, ⟨0, 0, 0, 0⟩, p2⟩, ⟨2, x, y, ⟨0, 0, 0, 0⟩, ⟨0, 0, 0, 0⟩⟩, ⟨3, p2.a, p2.b, ⟨0, 0, 0, 0⟩, ⟨0, 0, 0, 0⟩⟩]).cs = [rdAt (byt N zs) a b c d x y] ∧ (grun ⟨a, b, c, d⟩ (gini ⟨a, b, c, d⟩ (byt N zs)) [⟨4, 0, 0, ⟨0, 0, 0, 0⟩, p2⟩, ⟨2, x, y, ⟨0, 0, 0, 0⟩, ⟨0, 0, 0, 0⟩⟩, ⟨3, p2.a, p2.b, ⟨0, 0, 0, 0⟩, ⟨0, 0, 0, 0⟩⟩]).ins ∧ (grun ⟨a, b, c, d⟩ (gini ⟨a, b, c, d⟩ (byt N zs)) [⟨4, 0, 0, ⟨0, 0, 0, 0⟩, p2⟩, ⟨2, x, y, ⟨0, 0, 0, 0⟩, ⟨0, 0, 0, 0⟩⟩, ⟨3, p2.a, p2.b, ⟨0, 0, 0, 0⟩, ⟨0, 0, 0, 0⟩⟩]).os = [0] by
    rw [run_cons, gstep4 _ _ _ rfl, run_cons, gstep2 _ _ _ rfl, run_cons, gstep3 _ _ _ rfl, run_nil]
    simp only [gini, Option.bind_some, HS2, List.nil_append]
    rw [seen_in HI.out, off_zero]
    exact ⟨rfl, ⟨⟨⟨trivial, ins_no (by dsimp only; decide) (by dsimp only; decide) (by dsimp only; decide)⟩, ins_yes (vis_some.2 HI.out)⟩, ins_yes (vis_some.2 hP)⟩, rfl⟩)
  clear HS2 hL hL1 hL2 hP
  go_enter Try.func19, Try.ntmps19
  go_wp2_with fail
  refine (toRect4 a b c d _).mono ?_
  rintro e w1 ⟨rfl, bc⟩
  have bw := bst bc (bsa (bsa (bsa (Below.refl _ _))))
  have k_r : w1.heap[w.heap.size]? = some (.cells #[.int .i64 a, .int .i64 b, .int .i64 c, .int .i64 d] 23 (0, 0)) := by have := bk bc (bka (bka (heap_alloc_new w _))); simpa using this
  have k_s : w1.heap[w.heap.size + 1]? = some (.cells #[.int .i64 s.a, .int .i64 s.b, .int .i64 s.c, .int .i64 s.d] 23 (0, 0)) := by have := bk bc (bka (heap_alloc_new (w.alloc (.cells #[.int .i64 a, .int .i64 b, .int .i64 c, .int .i64 d] 23)) _)); simpa using this
  have k_u : w1.heap[w.heap.size + 2]? = some (.cells #[.int .i64 u.a, .int .i64 u.b, .int .i64 u.c, .int .i64 u.d] 23 (0, 0)) := by have := bk bc (heap_alloc_new ((w.alloc (.cells #[.int .i64 a, .int .i64 b, .int .i64 c, .int .i64 d] 23)).alloc (.cells #[.int .i64 s.a, .int .i64 s.b, .int .i64 s.c, .int .i64 s.d] 23)) _); simpa using this
  clear bc
  go_upto_region 2 with fail
  obtain ⟨Y1, g_q, eY, eg⟩ : ∃ Y g, Y = w1.alloc (.cells #[.int .i64 a, .int .i64 b, .int .i64 c, .int .i64 d] 26) ∧ g = w1.heap.size := ⟨_, _, rfl, rfl⟩
  rw [← eY, ← eg]
  have bc : Below w1.heap.size w1 Y1 := by rw [eY]; exact (Below.refl _ _).alloc (Nat.le_refl _) _
  have k_q : Y1.heap[g_q]? = some (.cells #[.int .i64 a, .int .i64 b, .int .i64 c, .int .i64 d] 26 (0, 0)) := by rw [eY, eg]; exact heap_alloc_new w1 _
  replace k_r := bk bc k_r
  replace k_s := bk bc k_s
  replace k_u := bk bc k_u
  replace bw := bst bc bw
  clear bc eY eg
  go_cut [14, 15] (fun s14 s15 wx => ∃ (g_both : Nat), s14 = .pointer (some ⟨g_both, 0, none⟩) ∧ s15 = .bool true ∧ wx.heap[g_both]? = some (.cells #[.int .i64 p1.a, .int .i64 p1.b, .int .i64 p1.c, .int .i64 p1.d] 26 (0, 0)) ∧ wx.heap[w.heap.size]? = some (.cells #[.int .i64 a, .int .i64 b, .int .i64 c, .int .i64 d] 23 (0, 0)) ∧ wx.heap[w.heap.size + 1]? = some (.cells #[.int .i64 s.a, .int .i64 s.b, .int .i64 s.c, .int .i64 s.d] 23 (0, 0)) ∧ wx.heap[w.heap.size + 2]? = some (.cells #[.int .i64 u.a, .int .i64 u.b, .int .i64 u.c, .int .i64 u.d] 23 (0, 0)) ∧ wx.heap[g_q]? = some (.cells #[.int .i64 a, .int .i64 b, .int .i64 c, .int .i64 d] 26 (0, 0)) ∧ Hid (Below w.heap.size w wx))
  case first =>
    refine wp_region_held_drew (S := fun w' => w'.cell? ⟨g_q, 0, none⟩ = some (.int .i64 a) ∧ w'.cell? ⟨g_q, 1, none⟩ = some (.int .i64 b) ∧ w'.cell? ⟨g_q, 2, none⟩ = some (.int .i64 c) ∧ w'.cell? ⟨g_q, 3, none⟩ = some (.int .i64 d) ∧ w'.cell? ⟨w.heap.size + 1, 0, none⟩ = some (.int .i64 s.a) ∧ w'.cell? ⟨w.heap.size + 1, 1, none⟩ = some (.int .i64 s.b) ∧ w'.cell? ⟨w.heap.size + 1, 2, none⟩ = some (.int .i64 s.c) ∧ w'.cell? ⟨w.heap.size + 1, 3, none⟩ = some (.int .i64 s.d)) (by kernel_rfl) ⟨(q4c k_q).1.1, (q4c k_q).1.2.1, (q4c k_q).1.2.2.1, (q4c k_q).1.2.2.2, (q4c k_s).1.1, (q4c k_s).1.2.1, (q4c k_s).1.2.2.1, (q4c k_s).1.2.2.2⟩ ?_
    intro hHeld
    obtain ⟨X2, eX, bc⟩ : ∃ X, X = Y1.drew ∧ Below Y1.heap.size Y1 X := ⟨_, rfl, (Below.refl _ _).drew⟩
    rw [← eX] at hHeld ⊢
    replace k_r := bk bc k_r
    replace k_s := bk bc k_s
    replace k_u := bk bc k_u
    replace k_q := bk bc k_q
    replace bw := bst bc bw
    clear eX bc
    refine takx (i := 0) (D := 29) (v := .agg #[.int .i64 a, .int .i64 b, .int .i64 c, .int .i64 d]) rfl rfl (by kernel_rfl) (by kernel_rfl) (by kernel_rfl) (fun _ _ _ h => h) (Or.inl ⟨by rfl, fun W hSw => by (try dsimp only at hSw); go_simp⟩) (by assumption) ?_
    (try simp only [List.setIfInBounds_toArray, List.set_cons_zero, List.set_cons_succ])
    refine takx (i := 1) (D := 30) (v := .agg #[.int .i64 s.a, .int .i64 s.b, .int .i64 s.c, .int .i64 s.d]) rfl rfl (by kernel_rfl) (by kernel_rfl) (by kernel_rfl) (fun _ _ _ h => h) (Or.inl ⟨by rfl, fun W hSw => by (try dsimp only at hSw); go_simp⟩) (by assumption) ?_
    (try simp only [List.setIfInBounds_toArray, List.set_cons_zero, List.set_cons_succ])
    refine wpAnyH_ready (rs := [2, 7]) (by kernel_rfl) (by simp) ?_
    refine (AllReadyH.cons rfl (fun K hK => ?_) (AllReadyH.cons rfl (fun K hK => ?_) AllReadyH.nil))
    · go_simp
      refine (toRect4 s.a s.b s.c s.d _).mono ?_
      rintro e X3 ⟨rfl, bc⟩
      refine hK.out _ _ ⟨ck bc hHeld.1, ck bc hHeld.2.1, ck bc hHeld.2.2.1, ck bc hHeld.2.2.2.1, ck bc hHeld.2.2.2.2.1, ck bc hHeld.2.2.2.2.2.1, ck bc hHeld.2.2.2.2.2.2.1, ck bc hHeld.2.2.2.2.2.2.2⟩ (fun hHeld => ?_)
      clear hK K
      (try simp only [List.setIfInBounds_toArray, List.set_cons_zero, List.set_cons_succ])
      replace k_r := bk bc k_r
      replace k_s := bk bc k_s
      replace k_u := bk bc k_u
      replace k_q := bk bc k_q
      replace bw := bst bc bw
      clear bc
      refine wpAnyH_ready (rs := [3, 7]) (by kernel_rfl) (by simp) ?_
      refine (AllReadyH.cons rfl (fun K hK => ?_) (AllReadyH.cons rfl (fun K hK => ?_) AllReadyH.nil))
      · go_simp
        refine (common_some ⟨a, b, c, d⟩ s p1 HC1.out _).mono ?_
        rintro e X4 ⟨rfl, bc⟩
        refine hK.out _ _ ⟨ck bc hHeld.1, ck bc hHeld.2.1, ck bc hHeld.2.2.1, ck bc hHeld.2.2.2.1, ck bc hHeld.2.2.2.2.1, ck bc hHeld.2.2.2.2.2.1, ck bc hHeld.2.2.2.2.2.2.1, ck bc hHeld.2.2.2.2.2.2.2⟩ (fun hHeld => ?_)
        clear hK K
        (try simp only [List.setIfInBounds_toArray, List.set_cons_zero, List.set_cons_succ])
        replace k_r := bk bc k_r
        replace k_s := bk bc k_s
        replace k_u := bk bc k_u
        replace k_q := bk bc k_q
        replace bw := bst bc bw
        clear bc
        refine takx (i := 4) (D := 28) (v := .tuple #[.agg #[.int .i64 p1.a, .int .i64 p1.b, .int .i64 p1.c, .int .i64 p1.d], .bool true]) rfl rfl (by kernel_rfl) (by kernel_rfl) (by kernel_rfl) (fun _ _ _ h => h) (Or.inl ⟨by rfl, fun W hSw => by (try dsimp only at hSw); go_simp⟩) (by assumption) ?_
        (try simp only [List.setIfInBounds_toArray, List.set_cons_zero, List.set_cons_succ])
        refine takx (i := 5) (D := 33) (v := .agg #[.int .i64 p1.a, .int .i64 p1.b, .int .i64 p1.c, .int .i64 p1.d]) rfl rfl (by kernel_rfl) (by kernel_rfl) (by kernel_rfl) (fun _ _ _ h => h) (Or.inl ⟨by rfl, fun W hSw => by (try dsimp only at hSw); go_simp⟩) (by assumption) ?_
        (try simp only [List.setIfInBounds_toArray, List.set_cons_zero, List.set_cons_succ])
        refine takx (i := 6) (D := 34) (v := .bool true) rfl rfl (by kernel_rfl) (by kernel_rfl) (by kernel_rfl) (fun _ _ _ h => h) (Or.inl ⟨by rfl, fun W hSw => by (try dsimp only at hSw); go_simp⟩) (by assumption) ?_
        (try simp only [List.setIfInBounds_toArray, List.set_cons_zero, List.set_cons_succ])
        refine wpAnyH_ready (rs := [7]) (by kernel_rfl) (by simp) ?_
        refine (AllReadyH.cons rfl (fun K hK => ?_) AllReadyH.nil)
        go_simp
        refine hK.out _ _ ⟨cka hHeld.1, cka hHeld.2.1, cka hHeld.2.2.1, cka hHeld.2.2.2.1, cka hHeld.2.2.2.2.1, cka hHeld.2.2.2.2.2.1, cka hHeld.2.2.2.2.2.2.1, cka hHeld.2.2.2.2.2.2.2⟩ (fun hHeld => ?_)
        clear hK K
        (try simp only [List.setIfInBounds_toArray, List.set_cons_zero, List.set_cons_succ])
        obtain ⟨X5, g5, eY, eg⟩ : ∃ Y g, Y = X4.alloc (.cells #[.int .i64 0, .int .i64 0, .int .i64 0, .int .i64 0] 26) ∧ g = X4.heap.size := ⟨_, _, rfl, rfl⟩
        rw [← eY, ← eg]
        rw [← eY] at hHeld
        have bc : Below X4.heap.size X4 X5 := by rw [eY]; exact (Below.refl _ _).alloc (Nat.le_refl _) _
        have k_n14 : X5.heap[g5]? = some (.cells #[.int .i64 0, .int .i64 0, .int .i64 0, .int .i64 0] 26 (0, 0)) := by rw [eY, eg]; exact heap_alloc_new X4 _
        have lo_n14 : w.heap.size ≤ g5 := by rw [eg]; exact bw.size
        have ne_r_n14 : ¬ w.heap.size = g5 := ne_new k_r eg
        have ne_s_n14 : ¬ w.heap.size + 1 = g5 := ne_new k_s eg
        have ne_u_n14 : ¬ w.heap.size + 2 = g5 := ne_new k_u eg
        have ne_q_n14 : ¬ g_q = g5 := ne_new k_q eg
        replace k_r := bk bc k_r
        replace k_s := bk bc k_s
        replace k_u := bk bc k_u
        replace k_q := bk bc k_q
        replace bw := bst bc bw
        clear bc eY eg
        refine wpAnyH_ready (rs := [8]) (by kernel_rfl) (by simp) ?_
        refine (AllReadyH.cons rfl (fun K hK => ?_) AllReadyH.nil)
        have qq := q4c k_n14
        go_simp
        clear qq
        refine hK.out _ _ ⟨(cks ne_q_n14 (cks ne_q_n14 (cks ne_q_n14 (cks ne_q_n14 hHeld.1)))), (cks ne_q_n14 (cks ne_q_n14 (cks ne_q_n14 (cks ne_q_n14 hHeld.2.1)))), (cks ne_q_n14 (cks ne_q_n14 (cks ne_q_n14 (cks ne_q_n14 hHeld.2.2.1)))), (cks ne_q_n14 (cks ne_q_n14 (cks ne_q_n14 (cks ne_q_n14 hHeld.2.2.2.1)))), (cks ne_s_n14 (cks ne_s_n14 (cks ne_s_n14 (cks ne_s_n14 hHeld.2.2.2.2.1)))), (cks ne_s_n14 (cks ne_s_n14 (cks ne_s_n14 (cks ne_s_n14 hHeld.2.2.2.2.2.1)))), (cks ne_s_n14 (cks ne_s_n14 (cks ne_s_n14 (cks ne_s_n14 hHeld.2.2.2.2.2.2.1)))), (cks ne_s_n14 (cks ne_s_n14 (cks ne_s_n14 (cks ne_s_n14 hHeld.2.2.2.2.2.2.2))))⟩ (fun hHeld => ?_)
        clear hK K
        (try simp only [List.setIfInBounds_toArray, List.set_cons_zero, List.set_cons_succ])
        obtain ⟨X6, eY⟩ : ∃ Y, Y = ((((X5.setCell ⟨g5, 0, none⟩ (.int .i64 p1.a)).setCell ⟨g5, 1, none⟩ (.int .i64 p1.b)).setCell ⟨g5, 2, none⟩ (.int .i64 p1.c)).setCell ⟨g5, 3, none⟩ (.int .i64 p1.d)) := ⟨_, rfl⟩
        rw [← eY] at hHeld ⊢
        replace k_r : X6.heap[w.heap.size]? = some (.cells #[.int .i64 a, .int .i64 b, .int .i64 c, .int .i64 d] 23 (0, 0)) := by rw [eY]; exact (bks ne_r_n14 (bks ne_r_n14 (bks ne_r_n14 (bks ne_r_n14 k_r))))
        replace k_s : X6.heap[w.heap.size + 1]? = some (.cells #[.int .i64 s.a, .int .i64 s.b, .int .i64 s.c, .int .i64 s.d] 23 (0, 0)) := by rw [eY]; exact (bks ne_s_n14 (bks ne_s_n14 (bks ne_s_n14 (bks ne_s_n14 k_s))))
        replace k_u : X6.heap[w.heap.size + 2]? = some (.cells #[.int .i64 u.a, .int .i64 u.b, .int .i64 u.c, .int .i64 u.d] 23 (0, 0)) := by rw [eY]; exact (bks ne_u_n14 (bks ne_u_n14 (bks ne_u_n14 (bks ne_u_n14 k_u))))
        replace k_q : X6.heap[g_q]? = some (.cells #[.int .i64 a, .int .i64 b, .int .i64 c, .int .i64 d] 26 (0, 0)) := by rw [eY]; exact (bks ne_q_n14 (bks ne_q_n14 (bks ne_q_n14 (bks ne_q_n14 k_q))))
        replace bw : Below w.heap.size w X6 := by rw [eY]; exact (bss lo_n14 (bss lo_n14 (bss lo_n14 (bss lo_n14 bw))))
        replace k_n14 : X6.heap[g5]? = some (.cells #[.int .i64 p1.a, .int .i64 p1.b, .int .i64 p1.c, .int .i64 p1.d] 26 (0, 0)) := by rw [eY]; exact q4s k_n14
        clear eY
        refine takx (i := 9) (D := 15) (v := .bool true) rfl rfl (by kernel_rfl) (by kernel_rfl) (by kernel_rfl) (fun _ _ _ h => h) (Or.inl ⟨by rfl, fun W hSw => by (try dsimp only at hSw); go_simp⟩) (by assumption) ?_
        (try simp only [List.setIfInBounds_toArray, List.set_cons_zero, List.set_cons_succ])
        refine wpAnyH_done (by kernel_rfl) ?_ _
        go_wp2_with fail
        go_meet
        exact ⟨_, rfl, rfl, k_n14, k_r, k_s, k_u, k_q, bw⟩
      · go_simp
        refine hK.out _ _ ⟨cka hHeld.1, cka hHeld.2.1, cka hHeld.2.2.1, cka hHeld.2.2.2.1, cka hHeld.2.2.2.2.1, cka hHeld.2.2.2.2.2.1, cka hHeld.2.2.2.2.2.2.1, cka hHeld.2.2.2.2.2.2.2⟩ (fun hHeld => ?_)
        clear hK K
        (try simp only [List.setIfInBounds_toArray, List.set_cons_zero, List.set_cons_succ])
        obtain ⟨X7, g7, eY, eg⟩ : ∃ Y g, Y = X3.alloc (.cells #[.int .i64 0, .int .i64 0, .int .i64 0, .int .i64 0] 26) ∧ g = X3.heap.size := ⟨_, _, rfl, rfl⟩
        rw [← eY, ← eg]
        rw [← eY] at hHeld
        have bc : Below X3.heap.size X3 X7 := by rw [eY]; exact (Below.refl _ _).alloc (Nat.le_refl _) _
        have k_n14 : X7.heap[g7]? = some (.cells #[.int .i64 0, .int .i64 0, .int .i64 0, .int .i64 0] 26 (0, 0)) := by rw [eY, eg]; exact heap_alloc_new X3 _
        have lo_n14 : w.heap.size ≤ g7 := by rw [eg]; exact bw.size
        have ne_r_n14 : ¬ w.heap.size = g7 := ne_new k_r eg
        have ne_s_n14 : ¬ w.heap.size + 1 = g7 := ne_new k_s eg
        have ne_u_n14 : ¬ w.heap.size + 2 = g7 := ne_new k_u eg
        have ne_q_n14 : ¬ g_q = g7 := ne_new k_q eg
        replace k_r := bk bc k_r
        replace k_s := bk bc k_s
        replace k_u := bk bc k_u
        replace k_q := bk bc k_q
        replace bw := bst bc bw
        clear bc eY eg
        refine wpAnyH_ready (rs := [3]) (by kernel_rfl) (by simp) ?_
        refine (AllReadyH.cons rfl (fun K hK => ?_) AllReadyH.nil)
        go_simp
        refine (common_some ⟨a, b, c, d⟩ s p1 HC1.out _).mono ?_
        rintro e X8 ⟨rfl, bc⟩
        refine hK.out _ _ ⟨ck bc hHeld.1, ck bc hHeld.2.1, ck bc hHeld.2.2.1, ck bc hHeld.2.2.2.1, ck bc hHeld.2.2.2.2.1, ck bc hHeld.2.2.2.2.2.1, ck bc hHeld.2.2.2.2.2.2.1, ck bc hHeld.2.2.2.2.2.2.2⟩ (fun hHeld => ?_)
        clear hK K
        (try simp only [List.setIfInBounds_toArray, List.set_cons_zero, List.set_cons_succ])
        replace k_r := bk bc k_r
        replace k_s := bk bc k_s
        replace k_u := bk bc k_u
        replace k_q := bk bc k_q
        replace k_n14 := bk bc k_n14
        replace bw := bst bc bw
        clear bc
        refine takx (i := 4) (D := 28) (v := .tuple #[.agg #[.int .i64 p1.a, .int .i64 p1.b, .int .i64 p1.c, .int .i64 p1.d], .bool true]) rfl rfl (by kernel_rfl) (by kernel_rfl) (by kernel_rfl) (fun _ _ _ h => h) (Or.inl ⟨by rfl, fun W hSw => by (try dsimp only at hSw); go_simp⟩) (by assumption) ?_
        (try simp only [List.setIfInBounds_toArray, List.set_cons_zero, List.set_cons_succ])
        refine takx (i := 5) (D := 33) (v := .agg #[.int .i64 p1.a, .int .i64 p1.b, .int .i64 p1.c, .int .i64 p1.d]) rfl rfl (by kernel_rfl) (by kernel_rfl) (by kernel_rfl) (fun _ _ _ h => h) (Or.inl ⟨by rfl, fun W hSw => by (try dsimp only at hSw); go_simp⟩) (by assumption) ?_
        (try simp only [List.setIfInBounds_toArray, List.set_cons_zero, List.set_cons_succ])
        refine takx (i := 6) (D := 34) (v := .bool true) rfl rfl (by kernel_rfl) (by kernel_rfl) (by kernel_rfl) (fun _ _ _ h => h) (Or.inl ⟨by rfl, fun W hSw => by (try dsimp only at hSw); go_simp⟩) (by assumption) ?_
        (try simp only [List.setIfInBounds_toArray, List.set_cons_zero, List.set_cons_succ])
        refine wpAnyH_ready (rs := [8]) (by kernel_rfl) (by simp) ?_
        refine (AllReadyH.cons rfl (fun K hK => ?_) AllReadyH.nil)
        have qq := q4c k_n14
        go_simp
        clear qq
        refine hK.out _ _ ⟨(cks ne_q_n14 (cks ne_q_n14 (cks ne_q_n14 (cks ne_q_n14 hHeld.1)))), (cks ne_q_n14 (cks ne_q_n14 (cks ne_q_n14 (cks ne_q_n14 hHeld.2.1)))), (cks ne_q_n14 (cks ne_q_n14 (cks ne_q_n14 (cks ne_q_n14 hHeld.2.2.1)))), (cks ne_q_n14 (cks ne_q_n14 (cks ne_q_n14 (cks ne_q_n14 hHeld.2.2.2.1)))), (cks ne_s_n14 (cks ne_s_n14 (cks ne_s_n14 (cks ne_s_n14 hHeld.2.2.2.2.1)))), (cks ne_s_n14 (cks ne_s_n14 (cks ne_s_n14 (cks ne_s_n14 hHeld.2.2.2.2.2.1)))), (cks ne_s_n14 (cks ne_s_n14 (cks ne_s_n14 (cks ne_s_n14 hHeld.2.2.2.2.2.2.1)))), (cks ne_s_n14 (cks ne_s_n14 (cks ne_s_n14 (cks ne_s_n14 hHeld.2.2.2.2.2.2.2))))⟩ (fun hHeld => ?_)
        clear hK K
        (try simp only [List.setIfInBounds_toArray, List.set_cons_zero, List.set_cons_succ])
        obtain ⟨X9, eY⟩ : ∃ Y, Y = ((((X8.setCell ⟨g7, 0, none⟩ (.int .i64 p1.a)).setCell ⟨g7, 1, none⟩ (.int .i64 p1.b)).setCell ⟨g7, 2, none⟩ (.int .i64 p1.c)).setCell ⟨g7, 3, none⟩ (.int .i64 p1.d)) := ⟨_, rfl⟩
        rw [← eY] at hHeld ⊢
        replace k_r : X9.heap[w.heap.size]? = some (.cells #[.int .i64 a, .int .i64 b, .int .i64 c, .int .i64 d] 23 (0, 0)) := by rw [eY]; exact (bks ne_r_n14 (bks ne_r_n14 (bks ne_r_n14 (bks ne_r_n14 k_r))))
        replace k_s : X9.heap[w.heap.size + 1]? = some (.cells #[.int .i64 s.a, .int .i64 s.b, .int .i64 s.c, .int .i64 s.d] 23 (0, 0)) := by rw [eY]; exact (bks ne_s_n14 (bks ne_s_n14 (bks ne_s_n14 (bks ne_s_n14 k_s))))
        replace k_u : X9.heap[w.heap.size + 2]? = some (.cells #[.int .i64 u.a, .int .i64 u.b, .int .i64 u.c, .int .i64 u.d] 23 (0, 0)) := by rw [eY]; exact (bks ne_u_n14 (bks ne_u_n14 (bks ne_u_n14 (bks ne_u_n14 k_u))))
        replace k_q : X9.heap[g_q]? = some (.cells #[.int .i64 a, .int .i64 b, .int .i64 c, .int .i64 d] 26 (0, 0)) := by rw [eY]; exact (bks ne_q_n14 (bks ne_q_n14 (bks ne_q_n14 (bks ne_q_n14 k_q))))
        replace bw : Below w.heap.size w X9 := by rw [eY]; exact (bss lo_n14 (bss lo_n14 (bss lo_n14 (bss lo_n14 bw))))
        replace k_n14 : X9.heap[g7]? = some (.cells #[.int .i64 p1.a, .int .i64 p1.b, .int .i64 p1.c, .int .i64 p1.d] 26 (0, 0)) := by rw [eY]; exact q4s k_n14
        clear eY
        refine takx (i := 9) (D := 15) (v := .bool true) rfl rfl (by kernel_rfl) (by kernel_rfl) (by kernel_rfl) (fun _ _ _ h => h) (Or.inl ⟨by rfl, fun W hSw => by (try dsimp only at hSw); go_simp⟩) (by assumption) ?_
        (try simp only [List.setIfInBounds_toArray, List.set_cons_zero, List.set_cons_succ])
        refine wpAnyH_done (by kernel_rfl) ?_ _
        go_wp2_with fail
        go_meet
        exact ⟨_, rfl, rfl, k_n14, k_r, k_s, k_u, k_q, bw⟩
    · go_simp
      refine hK.out _ _ ⟨cka hHeld.1, cka hHeld.2.1, cka hHeld.2.2.1, cka hHeld.2.2.2.1, cka hHeld.2.2.2.2.1, cka hHeld.2.2.2.2.2.1, cka hHeld.2.2.2.2.2.2.1, cka hHeld.2.2.2.2.2.2.2⟩ (fun hHeld => ?_)
      clear hK K
      (try simp only [List.setIfInBounds_toArray, List.set_cons_zero, List.set_cons_succ])
      obtain ⟨X10, g10, eY, eg⟩ : ∃ Y g, Y = X2.alloc (.cells #[.int .i64 0, .int .i64 0, .int .i64 0, .int .i64 0] 26) ∧ g = X2.heap.size := ⟨_, _, rfl, rfl⟩
      rw [← eY, ← eg]
      rw [← eY] at hHeld
      have bc : Below X2.heap.size X2 X10 := by rw [eY]; exact (Below.refl _ _).alloc (Nat.le_refl _) _
      have k_n14 : X10.heap[g10]? = some (.cells #[.int .i64 0, .int .i64 0, .int .i64 0, .int .i64 0] 26 (0, 0)) := by rw [eY, eg]; exact heap_alloc_new X2 _
      have lo_n14 : w.heap.size ≤ g10 := by rw [eg]; exact bw.size
      have ne_r_n14 : ¬ w.heap.size = g10 := ne_new k_r eg
      have ne_s_n14 : ¬ w.heap.size + 1 = g10 := ne_new k_s eg
      have ne_u_n14 : ¬ w.heap.size + 2 = g10 := ne_new k_u eg
      have ne_q_n14 : ¬ g_q = g10 := ne_new k_q eg
      replace k_r := bk bc k_r
      replace k_s := bk bc k_s
      replace k_u := bk bc k_u
      replace k_q := bk bc k_q
      replace bw := bst bc bw
      clear bc eY eg
      refine wpAnyH_ready (rs := [2]) (by kernel_rfl) (by simp) ?_
      refine (AllReadyH.cons rfl (fun K hK => ?_) AllReadyH.nil)
      go_simp
      refine (toRect4 s.a s.b s.c s.d _).mono ?_
      rintro e X11 ⟨rfl, bc⟩
      refine hK.out _ _ ⟨ck bc hHeld.1, ck bc hHeld.2.1, ck bc hHeld.2.2.1, ck bc hHeld.2.2.2.1, ck bc hHeld.2.2.2.2.1, ck bc hHeld.2.2.2.2.2.1, ck bc hHeld.2.2.2.2.2.2.1, ck bc hHeld.2.2.2.2.2.2.2⟩ (fun hHeld => ?_)
      clear hK K
      (try simp only [List.setIfInBounds_toArray, List.set_cons_zero, List.set_cons_succ])
      replace k_r := bk bc k_r
      replace k_s := bk bc k_s
      replace k_u := bk bc k_u
      replace k_q := bk bc k_q
      replace k_n14 := bk bc k_n14
      replace bw := bst bc bw
      clear bc
      refine wpAnyH_ready (rs := [3]) (by kernel_rfl) (by simp) ?_
      refine (AllReadyH.cons rfl (fun K hK => ?_) AllReadyH.nil)
      go_simp
      refine (common_some ⟨a, b, c, d⟩ s p1 HC1.out _).mono ?_
      rintro e X12 ⟨rfl, bc⟩
      refine hK.out _ _ ⟨ck bc hHeld.1, ck bc hHeld.2.1, ck bc hHeld.2.2.1, ck bc hHeld.2.2.2.1, ck bc hHeld.2.2.2.2.1, ck bc hHeld.2.2.2.2.2.1, ck bc hHeld.2.2.2.2.2.2.1, ck bc hHeld.2.2.2.2.2.2.2⟩ (fun hHeld => ?_)
      clear hK K
      (try simp only [List.setIfInBounds_toArray, List.set_cons_zero, List.set_cons_succ])
      replace k_r := bk bc k_r
      replace k_s := bk bc k_s
      replace k_u := bk bc k_u
      replace k_q := bk bc k_q
      replace k_n14 := bk bc k_n14
      replace bw := bst bc bw
      clear bc
      refine takx (i := 4) (D := 28) (v := .tuple #[.agg #[.int .i64 p1.a, .int .i64 p1.b, .int .i64 p1.c, .int .i64 p1.d], .bool true]) rfl rfl (by kernel_rfl) (by kernel_rfl) (by kernel_rfl) (fun _ _ _ h => h) (Or.inl ⟨by rfl, fun W hSw => by (try dsimp only at hSw); go_simp⟩) (by assumption) ?_
      (try simp only [List.setIfInBounds_toArray, List.set_cons_zero, List.set_cons_succ])
      refine takx (i := 5) (D := 33) (v := .agg #[.int .i64 p1.a, .int .i64 p1.b, .int .i64 p1.c, .int .i64 p1.d]) rfl rfl (by kernel_rfl) (by kernel_rfl) (by kernel_rfl) (fun _ _ _ h => h) (Or.inl ⟨by rfl, fun W hSw => by (try dsimp only at hSw); go_simp⟩) (by assumption) ?_
      (try simp only [List.setIfInBounds_toArray, List.set_cons_zero, List.set_cons_succ])
      refine takx (i := 6) (D := 34) (v := .bool true) rfl rfl (by kernel_rfl) (by kernel_rfl) (by kernel_rfl) (fun _ _ _ h => h) (Or.inl ⟨by rfl, fun W hSw => by (try dsimp only at hSw); go_simp⟩) (by assumption) ?_
      (try simp only [List.setIfInBounds_toArray, List.set_cons_zero, List.set_cons_succ])
      refine wpAnyH_ready (rs := [8]) (by kernel_rfl) (by simp) ?_
      refine (AllReadyH.cons rfl (fun K hK => ?_) AllReadyH.nil)
      have qq := q4c k_n14
      go_simp
      clear qq
      refine hK.out _ _ ⟨(cks ne_q_n14 (cks ne_q_n14 (cks ne_q_n14 (cks ne_q_n14 hHeld.1)))), (cks ne_q_n14 (cks ne_q_n14 (cks ne_q_n14 (cks ne_q_n14 hHeld.2.1)))), (cks ne_q_n14 (cks ne_q_n14 (cks ne_q_n14 (cks ne_q_n14 hHeld.2.2.1)))), (cks ne_q_n14 (cks ne_q_n14 (cks ne_q_n14 (cks ne_q_n14 hHeld.2.2.2.1)))), (cks ne_s_n14 (cks ne_s_n14 (cks ne_s_n14 (cks ne_s_n14 hHeld.2.2.2.2.1)))), (cks ne_s_n14 (cks ne_s_n14 (cks ne_s_n14 (cks ne_s_n14 hHeld.2.2.2.2.2.1)))), (cks ne_s_n14 (cks ne_s_n14 (cks ne_s_n14 (cks ne_s_n14 hHeld.2.2.2.2.2.2.1)))), (cks ne_s_n14 (cks ne_s_n14 (cks ne_s_n14 (cks ne_s_n14 hHeld.2.2.2.2.2.2.2))))⟩ (fun hHeld => ?_)
      clear hK K
      (try simp only [List.setIfInBounds_toArray, List.set_cons_zero, List.set_cons_succ])
      obtain ⟨X13, eY⟩ : ∃ Y, Y = ((((X12.setCell ⟨g10, 0, none⟩ (.int .i64 p1.a)).setCell ⟨g10, 1, none⟩ (.int .i64 p1.b)).setCell ⟨g10, 2, none⟩ (.int .i64 p1.c)).setCell ⟨g10, 3, none⟩ (.int .i64 p1.d)) := ⟨_, rfl⟩
      rw [← eY] at hHeld ⊢
      replace k_r : X13.heap[w.heap.size]? = some (.cells #[.int .i64 a, .int .i64 b, .int .i64 c, .int .i64 d] 23 (0, 0)) := by rw [eY]; exact (bks ne_r_n14 (bks ne_r_n14 (bks ne_r_n14 (bks ne_r_n14 k_r))))
      replace k_s : X13.heap[w.heap.size + 1]? = some (.cells #[.int .i64 s.a, .int .i64 s.b, .int .i64 s.c, .int .i64 s.d] 23 (0, 0)) := by rw [eY]; exact (bks ne_s_n14 (bks ne_s_n14 (bks ne_s_n14 (bks ne_s_n14 k_s))))
      replace k_u : X13.heap[w.heap.size + 2]? = some (.cells #[.int .i64 u.a, .int .i64 u.b, .int .i64 u.c, .int .i64 u.d] 23 (0, 0)) := by rw [eY]; exact (bks ne_u_n14 (bks ne_u_n14 (bks ne_u_n14 (bks ne_u_n14 k_u))))
      replace k_q : X13.heap[g_q]? = some (.cells #[.int .i64 a, .int .i64 b, .int .i64 c, .int .i64 d] 26 (0, 0)) := by rw [eY]; exact (bks ne_q_n14 (bks ne_q_n14 (bks ne_q_n14 (bks ne_q_n14 k_q))))
      replace bw : Below w.heap.size w X13 := by rw [eY]; exact (bss lo_n14 (bss lo_n14 (bss lo_n14 (bss lo_n14 bw))))
      replace k_n14 : X13.heap[g10]? = some (.cells #[.int .i64 p1.a, .int .i64 p1.b, .int .i64 p1.c, .int .i64 p1.d] 26 (0, 0)) := by rw [eY]; exact q4s k_n14
      clear eY
      refine takx (i := 9) (D := 15) (v := .bool true) rfl rfl (by kernel_rfl) (by kernel_rfl) (by kernel_rfl) (fun _ _ _ h => h) (Or.inl ⟨by rfl, fun W hSw => by (try dsimp only at hSw); go_simp⟩) (by assumption) ?_
      (try simp only [List.setIfInBounds_toArray, List.set_cons_zero, List.set_cons_succ])
      refine wpAnyH_done (by kernel_rfl) ?_ _
      go_wp2_with fail
      go_meet
      exact ⟨_, rfl, rfl, k_n14, k_r, k_s, k_u, k_q, bw⟩
  case rest =>
    clear k_r k_s k_u k_q bw
    obtain ⟨g_both, rfl, rfl, k_both, k_r, k_s, k_u, k_q, BW⟩ := hcut
    have bw := BW.out
    clear BW
    have q_r := q4c k_r
    have q_s := q4c k_s
    have q_u := q4c k_u
    have q_q := q4c k_q
    have q_both := q4c k_both
    go_wp2_with fail
    refine (fine_yes a b c d HF.out _).mono ?_
    rintro e Y15 ⟨rfl, bc⟩
    clear q_r q_s q_u q_q q_both
    replace k_r := bk bc k_r
    replace k_s := bk bc k_s
    replace k_u := bk bc k_u
    replace k_q := bk bc k_q
    replace k_both := bk bc k_both
    replace bw := bst bc bw
    clear bc
    have q_r := q4c k_r
    have q_s := q4c k_s
    have q_u := q4c k_u
    have q_q := q4c k_q
    have q_both := q4c k_both
    go_upto_region 5 with fail
    clear q_r q_s q_u q_q q_both
    go_cut [16, 17] (fun s16 s17 wx => ∃ (g_all : Nat), s16 = .pointer (some ⟨g_all, 0, none⟩) ∧ s17 = .bool true ∧ wx.heap[g_all]? = some (.cells #[.int .i64 p2.a, .int .i64 p2.b, .int .i64 p2.c, .int .i64 p2.d] 26 (0, 0)) ∧ wx.heap[w.heap.size]? = some (.cells #[.int .i64 a, .int .i64 b, .int .i64 c, .int .i64 d] 23 (0, 0)) ∧ wx.heap[w.heap.size + 1]? = some (.cells #[.int .i64 s.a, .int .i64 s.b, .int .i64 s.c, .int .i64 s.d] 23 (0, 0)) ∧ wx.heap[w.heap.size + 2]? = some (.cells #[.int .i64 u.a, .int .i64 u.b, .int .i64 u.c, .int .i64 u.d] 23 (0, 0)) ∧ wx.heap[g_q]? = some (.cells #[.int .i64 a, .int .i64 b, .int .i64 c, .int .i64 d] 26 (0, 0)) ∧ wx.heap[g_both]? = some (.cells #[.int .i64 p1.a, .int .i64 p1.b, .int .i64 p1.c, .int .i64 p1.d] 26 (0, 0)) ∧ Hid (Below w.heap.size w wx))
    case first =>
      refine wp_region_held_drew (S := fun w' => w'.cell? ⟨g_both, 0, none⟩ = some (.int .i64 p1.a) ∧ w'.cell? ⟨g_both, 1, none⟩ = some (.int .i64 p1.b) ∧ w'.cell? ⟨g_both, 2, none⟩ = some (.int .i64 p1.c) ∧ w'.cell? ⟨g_both, 3, none⟩ = some (.int .i64 p1.d) ∧ w'.cell? ⟨w.heap.size + 2, 0, none⟩ = some (.int .i64 u.a) ∧ w'.cell? ⟨w.heap.size + 2, 1, none⟩ = some (.int .i64 u.b) ∧ w'.cell? ⟨w.heap.size + 2, 2, none⟩ = some (.int .i64 u.c) ∧ w'.cell? ⟨w.heap.size + 2, 3, none⟩ = some (.int .i64 u.d)) (by kernel_rfl) ⟨(q4c k_both).1.1, (q4c k_both).1.2.1, (q4c k_both).1.2.2.1, (q4c k_both).1.2.2.2, (q4c k_u).1.1, (q4c k_u).1.2.1, (q4c k_u).1.2.2.1, (q4c k_u).1.2.2.2⟩ ?_
      intro hHeld
      obtain ⟨X16, eX, bc⟩ : ∃ X, X = Y15.drew ∧ Below Y15.heap.size Y15 X := ⟨_, rfl, (Below.refl _ _).drew⟩
      rw [← eX] at hHeld ⊢
      replace k_r := bk bc k_r
      replace k_s := bk bc k_s
      replace k_u := bk bc k_u
      replace k_q := bk bc k_q
      replace k_both := bk bc k_both
      replace bw := bst bc bw
      clear eX bc
      refine takx (i := 0) (D := 43) (v := .agg #[.int .i64 p1.a, .int .i64 p1.b, .int .i64 p1.c, .int .i64 p1.d]) rfl rfl (by kernel_rfl) (by kernel_rfl) (by kernel_rfl) (fun _ _ _ h => h) (Or.inl ⟨by rfl, fun W hSw => by (try dsimp only at hSw); go_simp⟩) (by assumption) ?_
      (try simp only [List.setIfInBounds_toArray, List.set_cons_zero, List.set_cons_succ])
      refine takx (i := 1) (D := 44) (v := .agg #[.int .i64 u.a, .int .i64 u.b, .int .i64 u.c, .int .i64 u.d]) rfl rfl (by kernel_rfl) (by kernel_rfl) (by kernel_rfl) (fun _ _ _ h => h) (Or.inl ⟨by rfl, fun W hSw => by (try dsimp only at hSw); go_simp⟩) (by assumption) ?_
      (try simp only [List.setIfInBounds_toArray, List.set_cons_zero, List.set_cons_succ])
      refine wpAnyH_ready (rs := [2, 7]) (by kernel_rfl) (by simp) ?_
      refine (AllReadyH.cons rfl (fun K hK => ?_) (AllReadyH.cons rfl (fun K hK => ?_) AllReadyH.nil))
      · go_simp
        refine (toRect4 u.a u.b u.c u.d _).mono ?_
        rintro e X17 ⟨rfl, bc⟩
        refine hK.out _ _ ⟨ck bc hHeld.1, ck bc hHeld.2.1, ck bc hHeld.2.2.1, ck bc hHeld.2.2.2.1, ck bc hHeld.2.2.2.2.1, ck bc hHeld.2.2.2.2.2.1, ck bc hHeld.2.2.2.2.2.2.1, ck bc hHeld.2.2.2.2.2.2.2⟩ (fun hHeld => ?_)
        clear hK K
        (try simp only [List.setIfInBounds_toArray, List.set_cons_zero, List.set_cons_succ])
        replace k_r := bk bc k_r
        replace k_s := bk bc k_s
        replace k_u := bk bc k_u
        replace k_q := bk bc k_q
        replace k_both := bk bc k_both
        replace bw := bst bc bw
        clear bc
        refine wpAnyH_ready (rs := [3, 7]) (by kernel_rfl) (by simp) ?_
        refine (AllReadyH.cons rfl (fun K hK => ?_) (AllReadyH.cons rfl (fun K hK => ?_) AllReadyH.nil))
        · go_simp
          refine (common_some p1 u p2 HC2.out _).mono ?_
          rintro e X18 ⟨rfl, bc⟩
          refine hK.out _ _ ⟨ck bc hHeld.1, ck bc hHeld.2.1, ck bc hHeld.2.2.1, ck bc hHeld.2.2.2.1, ck bc hHeld.2.2.2.2.1, ck bc hHeld.2.2.2.2.2.1, ck bc hHeld.2.2.2.2.2.2.1, ck bc hHeld.2.2.2.2.2.2.2⟩ (fun hHeld => ?_)
          clear hK K
          (try simp only [List.setIfInBounds_toArray, List.set_cons_zero, List.set_cons_succ])
          replace k_r := bk bc k_r
          replace k_s := bk bc k_s
          replace k_u := bk bc k_u
          replace k_q := bk bc k_q
          replace k_both := bk bc k_both
          replace bw := bst bc bw
          clear bc
          refine takx (i := 4) (D := 42) (v := .tuple #[.agg #[.int .i64 p2.a, .int .i64 p2.b, .int .i64 p2.c, .int .i64 p2.d], .bool true]) rfl rfl (by kernel_rfl) (by kernel_rfl) (by kernel_rfl) (fun _ _ _ h => h) (Or.inl ⟨by rfl, fun W hSw => by (try dsimp only at hSw); go_simp⟩) (by assumption) ?_
          (try simp only [List.setIfInBounds_toArray, List.set_cons_zero, List.set_cons_succ])
          refine takx (i := 5) (D := 47) (v := .agg #[.int .i64 p2.a, .int .i64 p2.b, .int .i64 p2.c, .int .i64 p2.d]) rfl rfl (by kernel_rfl) (by kernel_rfl) (by kernel_rfl) (fun _ _ _ h => h) (Or.inl ⟨by rfl, fun W hSw => by (try dsimp only at hSw); go_simp⟩) (by assumption) ?_
          (try simp only [List.setIfInBounds_toArray, List.set_cons_zero, List.set_cons_succ])
          refine takx (i := 6) (D := 48) (v := .bool true) rfl rfl (by kernel_rfl) (by kernel_rfl) (by kernel_rfl) (fun _ _ _ h => h) (Or.inl ⟨by rfl, fun W hSw => by (try dsimp only at hSw); go_simp⟩) (by assumption) ?_
          (try simp only [List.setIfInBounds_toArray, List.set_cons_zero, List.set_cons_succ])
          refine wpAnyH_ready (rs := [7]) (by kernel_rfl) (by simp) ?_
          refine (AllReadyH.cons rfl (fun K hK => ?_) AllReadyH.nil)
          go_simp
          refine hK.out _ _ ⟨cka hHeld.1, cka hHeld.2.1, cka hHeld.2.2.1, cka hHeld.2.2.2.1, cka hHeld.2.2.2.2.1, cka hHeld.2.2.2.2.2.1, cka hHeld.2.2.2.2.2.2.1, cka hHeld.2.2.2.2.2.2.2⟩ (fun hHeld => ?_)
          clear hK K
          (try simp only [List.setIfInBounds_toArray, List.set_cons_zero, List.set_cons_succ])
          obtain ⟨X19, g19, eY, eg⟩ : ∃ Y g, Y = X18.alloc (.cells #[.int .i64 0, .int .i64 0, .int .i64 0, .int .i64 0] 26) ∧ g = X18.heap.size := ⟨_, _, rfl, rfl⟩
          rw [← eY, ← eg]
          rw [← eY] at hHeld
          have bc : Below X18.heap.size X18 X19 := by rw [eY]; exact (Below.refl _ _).alloc (Nat.le_refl _) _
          have k_n16 : X19.heap[g19]? = some (.cells #[.int .i64 0, .int .i64 0, .int .i64 0, .int .i64 0] 26 (0, 0)) := by rw [eY, eg]; exact heap_alloc_new X18 _
          have lo_n16 : w.heap.size ≤ g19 := by rw [eg]; exact bw.size
          have ne_r_n16 : ¬ w.heap.size = g19 := ne_new k_r eg
          have ne_s_n16 : ¬ w.heap.size + 1 = g19 := ne_new k_s eg
          have ne_u_n16 : ¬ w.heap.size + 2 = g19 := ne_new k_u eg
          have ne_q_n16 : ¬ g_q = g19 := ne_new k_q eg
          have ne_both_n16 : ¬ g_both = g19 := ne_new k_both eg
          replace k_r := bk bc k_r
          replace k_s := bk bc k_s
          replace k_u := bk bc k_u
          replace k_q := bk bc k_q
          replace k_both := bk bc k_both
          replace bw := bst bc bw
          clear bc eY eg
          refine wpAnyH_ready (rs := [8]) (by kernel_rfl) (by simp) ?_
          refine (AllReadyH.cons rfl (fun K hK => ?_) AllReadyH.nil)
          have qq := q4c k_n16
          go_simp
          clear qq
          refine hK.out _ _ ⟨(cks ne_both_n16 (cks ne_both_n16 (cks ne_both_n16 (cks ne_both_n16 hHeld.1)))), (cks ne_both_n16 (cks ne_both_n16 (cks ne_both_n16 (cks ne_both_n16 hHeld.2.1)))), (cks ne_both_n16 (cks ne_both_n16 (cks ne_both_n16 (cks ne_both_n16 hHeld.2.2.1)))), (cks ne_both_n16 (cks ne_both_n16 (cks ne_both_n16 (cks ne_both_n16 hHeld.2.2.2.1)))), (cks ne_u_n16 (cks ne_u_n16 (cks ne_u_n16 (cks ne_u_n16 hHeld.2.2.2.2.1)))), (cks ne_u_n16 (cks ne_u_n16 (cks ne_u_n16 (cks ne_u_n16 hHeld.2.2.2.2.2.1)))), (cks ne_u_n16 (cks ne_u_n16 (cks ne_u_n16 (cks ne_u_n16 hHeld.2.2.2.2.2.2.1)))), (cks ne_u_n16 (cks ne_u_n16 (cks ne_u_n16 (cks ne_u_n16 hHeld.2.2.2.2.2.2.2))))⟩ (fun hHeld => ?_)
          clear hK K
          (try simp only [List.setIfInBounds_toArray, List.set_cons_zero, List.set_cons_succ])
          obtain ⟨X20, eY⟩ : ∃ Y, Y = ((((X19.setCell ⟨g19, 0, none⟩ (.int .i64 p2.a)).setCell ⟨g19, 1, none⟩ (.int .i64 p2.b)).setCell ⟨g19, 2, none⟩ (.int .i64 p2.c)).setCell ⟨g19, 3, none⟩ (.int .i64 p2.d)) := ⟨_, rfl⟩
          rw [← eY] at hHeld ⊢
          replace k_r : X20.heap[w.heap.size]? = some (.cells #[.int .i64 a, .int .i64 b, .int .i64 c, .int .i64 d] 23 (0, 0)) := by rw [eY]; exact (bks ne_r_n16 (bks ne_r_n16 (bks ne_r_n16 (bks ne_r_n16 k_r))))
          replace k_s : X20.heap[w.heap.size + 1]? = some (.cells #[.int .i64 s.a, .int .i64 s.b, .int .i64 s.c, .int .i64 s.d] 23 (0, 0)) := by rw [eY]; exact (bks ne_s_n16 (bks ne_s_n16 (bks ne_s_n16 (bks ne_s_n16 k_s))))
          replace k_u : X20.heap[w.heap.size + 2]? = some (.cells #[.int .i64 u.a, .int .i64 u.b, .int .i64 u.c, .int .i64 u.d] 23 (0, 0)) := by rw [eY]; exact (bks ne_u_n16 (bks ne_u_n16 (bks ne_u_n16 (bks ne_u_n16 k_u))))
          replace k_q : X20.heap[g_q]? = some (.cells #[.int .i64 a, .int .i64 b, .int .i64 c, .int .i64 d] 26 (0, 0)) := by rw [eY]; exact (bks ne_q_n16 (bks ne_q_n16 (bks ne_q_n16 (bks ne_q_n16 k_q))))
          replace k_both : X20.heap[g_both]? = some (.cells #[.int .i64 p1.a, .int .i64 p1.b, .int .i64 p1.c, .int .i64 p1.d] 26 (0, 0)) := by rw [eY]; exact (bks ne_both_n16 (bks ne_both_n16 (bks ne_both_n16 (bks ne_both_n16 k_both))))
          replace bw : Below w.heap.size w X20 := by rw [eY]; exact (bss lo_n16 (bss lo_n16 (bss lo_n16 (bss lo_n16 bw))))
          replace k_n16 : X20.heap[g19]? = some (.cells #[.int .i64 p2.a, .int .i64 p2.b, .int .i64 p2.c, .int .i64 p2.d] 26 (0, 0)) := by rw [eY]; exact q4s k_n16
          clear eY
          refine takx (i := 9) (D := 17) (v := .bool true) rfl rfl (by kernel_rfl) (by kernel_rfl) (by kernel_rfl) (fun _ _ _ h => h) (Or.inl ⟨by rfl, fun W hSw => by (try dsimp only at hSw); go_simp⟩) (by assumption) ?_
          (try simp only [List.setIfInBounds_toArray, List.set_cons_zero, List.set_cons_succ])
          refine wpAnyH_done (by kernel_rfl) ?_ _
          go_wp2_with fail
          go_meet
          exact ⟨_, rfl, rfl, k_n16, k_r, k_s, k_u, k_q, k_both, bw⟩
        · go_simp
          refine hK.out _ _ ⟨cka hHeld.1, cka hHeld.2.1, cka hHeld.2.2.1, cka hHeld.2.2.2.1, cka hHeld.2.2.2.2.1, cka hHeld.2.2.2.2.2.1, cka hHeld.2.2.2.2.2.2.1, cka hHeld.2.2.2.2.2.2.2⟩ (fun hHeld => ?_)
          clear hK K
          (try simp only [List.setIfInBounds_toArray, List.set_cons_zero, List.set_cons_succ])
          obtain ⟨X21, g21, eY, eg⟩ : ∃ Y g, Y = X17.alloc (.cells #[.int .i64 0, .int .i64 0, .int .i64 0, .int .i64 0] 26) ∧ g = X17.heap.size := ⟨_, _, rfl, rfl⟩
          rw [← eY, ← eg]
          rw [← eY] at hHeld
          have bc : Below X17.heap.size X17 X21 := by rw [eY]; exact (Below.refl _ _).alloc (Nat.le_refl _) _
          have k_n16 : X21.heap[g21]? = some (.cells #[.int .i64 0, .int .i64 0, .int .i64 0, .int .i64 0] 26 (0, 0)) := by rw [eY, eg]; exact heap_alloc_new X17 _
          have lo_n16 : w.heap.size ≤ g21 := by rw [eg]; exact bw.size
          have ne_r_n16 : ¬ w.heap.size = g21 := ne_new k_r eg
          have ne_s_n16 : ¬ w.heap.size + 1 = g21 := ne_new k_s eg
          have ne_u_n16 : ¬ w.heap.size + 2 = g21 := ne_new k_u eg
          have ne_q_n16 : ¬ g_q = g21 := ne_new k_q eg
          have ne_both_n16 : ¬ g_both = g21 := ne_new k_both eg
          replace k_r := bk bc k_r
          replace k_s := bk bc k_s
          replace k_u := bk bc k_u
          replace k_q := bk bc k_q
          replace k_both := bk bc k_both
          replace bw := bst bc bw
          clear bc eY eg
          refine wpAnyH_ready (rs := [3]) (by kernel_rfl) (by simp) ?_
          refine (AllReadyH.cons rfl (fun K hK => ?_) AllReadyH.nil)
          go_simp
          refine (common_some p1 u p2 HC2.out _).mono ?_
          rintro e X22 ⟨rfl, bc⟩
          refine hK.out _ _ ⟨ck bc hHeld.1, ck bc hHeld.2.1, ck bc hHeld.2.2.1, ck bc hHeld.2.2.2.1, ck bc hHeld.2.2.2.2.1, ck bc hHeld.2.2.2.2.2.1, ck bc hHeld.2.2.2.2.2.2.1, ck bc hHeld.2.2.2.2.2.2.2⟩ (fun hHeld => ?_)
          clear hK K
          (try simp only [List.setIfInBounds_toArray, List.set_cons_zero, List.set_cons_succ])
          replace k_r := bk bc k_r
          replace k_s := bk bc k_s
          replace k_u := bk bc k_u
          replace k_q := bk bc k_q
          replace k_both := bk bc k_both
          replace k_n16 := bk bc k_n16
          replace bw := bst bc bw
          clear bc
          refine takx (i := 4) (D := 42) (v := .tuple #[.agg #[.int .i64 p2.a, .int .i64 p2.b, .int .i64 p2.c, .int .i64 p2.d], .bool true]) rfl rfl (by kernel_rfl) (by kernel_rfl) (by kernel_rfl) (fun _ _ _ h => h) (Or.inl ⟨by rfl, fun W hSw => by (try dsimp only at hSw); go_simp⟩) (by assumption) ?_
          (try simp only [List.setIfInBounds_toArray, List.set_cons_zero, List.set_cons_succ])
          refine takx (i := 5) (D := 47) (v := .agg #[.int .i64 p2.a, .int .i64 p2.b, .int .i64 p2.c, .int .i64 p2.d]) rfl rfl (by kernel_rfl) (by kernel_rfl) (by kernel_rfl) (fun _ _ _ h => h) (Or.inl ⟨by rfl, fun W hSw => by (try dsimp only at hSw); go_simp⟩) (by assumption) ?_
          (try simp only [List.setIfInBounds_toArray, List.set_cons_zero, List.set_cons_succ])
          refine takx (i := 6) (D := 48) (v := .bool true) rfl rfl (by kernel_rfl) (by kernel_rfl) (by kernel_rfl) (fun _ _ _ h => h) (Or.inl ⟨by rfl, fun W hSw => by (try dsimp only at hSw); go_simp⟩) (by assumption) ?_
          (try simp only [List.setIfInBounds_toArray, List.set_cons_zero, List.set_cons_succ])
          refine wpAnyH_ready (rs := [8]) (by kernel_rfl) (by simp) ?_
          refine (AllReadyH.cons rfl (fun K hK => ?_) AllReadyH.nil)
          have qq := q4c k_n16
          go_simp
          clear qq
          refine hK.out _ _ ⟨(cks ne_both_n16 (cks ne_both_n16 (cks ne_both_n16 (cks ne_both_n16 hHeld.1)))), (cks ne_both_n16 (cks ne_both_n16 (cks ne_both_n16 (cks ne_both_n16 hHeld.2.1)))), (cks ne_both_n16 (cks ne_both_n16 (cks ne_both_n16 (cks ne_both_n16 hHeld.2.2.1)))), (cks ne_both_n16 (cks ne_both_n16 (cks ne_both_n16 (cks ne_both_n16 hHeld.2.2.2.1)))), (cks ne_u_n16 (cks ne_u_n16 (cks ne_u_n16 (cks ne_u_n16 hHeld.2.2.2.2.1)))), (cks ne_u_n16 (cks ne_u_n16 (cks ne_u_n16 (cks ne_u_n16 hHeld.2.2.2.2.2.1)))), (cks ne_u_n16 (cks ne_u_n16 (cks ne_u_n16 (cks ne_u_n16 hHeld.2.2.2.2.2.2.1)))), (cks ne_u_n16 (cks ne_u_n16 (cks ne_u_n16 (cks ne_u_n16 hHeld.2.2.2.2.2.2.2))))⟩ (fun hHeld => ?_)
          clear hK K
          (try simp only [List.setIfInBounds_toArray, List.set_cons_zero, List.set_cons_succ])
          obtain ⟨X23, eY⟩ : ∃ Y, Y = ((((X22.setCell ⟨g21, 0, none⟩ (.int .i64 p2.a)).setCell ⟨g21, 1, none⟩ (.int .i64 p2.b)).setCell ⟨g21, 2, none⟩ (.int .i64 p2.c)).setCell ⟨g21, 3, none⟩ (.int .i64 p2.d)) := ⟨_, rfl⟩
          rw [← eY] at hHeld ⊢
          replace k_r : X23.heap[w.heap.size]? = some (.cells #[.int .i64 a, .int .i64 b, .int .i64 c, .int .i64 d] 23 (0, 0)) := by rw [eY]; exact (bks ne_r_n16 (bks ne_r_n16 (bks ne_r_n16 (bks ne_r_n16 k_r))))
          replace k_s : X23.heap[w.heap.size + 1]? = some (.cells #[.int .i64 s.a, .int .i64 s.b, .int .i64 s.c, .int .i64 s.d] 23 (0, 0)) := by rw [eY]; exact (bks ne_s_n16 (bks ne_s_n16 (bks ne_s_n16 (bks ne_s_n16 k_s))))
          replace k_u : X23.heap[w.heap.size + 2]? = some (.cells #[.int .i64 u.a, .int .i64 u.b, .int .i64 u.c, .int .i64 u.d] 23 (0, 0)) := by rw [eY]; exact (bks ne_u_n16 (bks ne_u_n16 (bks ne_u_n16 (bks ne_u_n16 k_u))))
          replace k_q : X23.heap[g_q]? = some (.cells #[.int .i64 a, .int .i64 b, .int .i64 c, .int .i64 d] 26 (0, 0)) := by rw [eY]; exact (bks ne_q_n16 (bks ne_q_n16 (bks ne_q_n16 (bks ne_q_n16 k_q))))
          replace k_both : X23.heap[g_both]? = some (.cells #[.int .i64 p1.a, .int .i64 p1.b, .int .i64 p1.c, .int .i64 p1.d] 26 (0, 0)) := by rw [eY]; exact (bks ne_both_n16 (bks ne_both_n16 (bks ne_both_n16 (bks ne_both_n16 k_both))))
          replace bw : Below w.heap.size w X23 := by rw [eY]; exact (bss lo_n16 (bss lo_n16 (bss lo_n16 (bss lo_n16 bw))))
          replace k_n16 : X23.heap[g21]? = some (.cells #[.int .i64 p2.a, .int .i64 p2.b, .int .i64 p2.c, .int .i64 p2.d] 26 (0, 0)) := by rw [eY]; exact q4s k_n16
          clear eY
          refine takx (i := 9) (D := 17) (v := .bool true) rfl rfl (by kernel_rfl) (by kernel_rfl) (by kernel_rfl) (fun _ _ _ h => h) (Or.inl ⟨by rfl, fun W hSw => by (try dsimp only at hSw); go_simp⟩) (by assumption) ?_
          (try simp only [List.setIfInBounds_toArray, List.set_cons_zero, List.set_cons_succ])
          refine wpAnyH_done (by kernel_rfl) ?_ _
          go_wp2_with fail
          go_meet
          exact ⟨_, rfl, rfl, k_n16, k_r, k_s, k_u, k_q, k_both, bw⟩
      · go_simp
        refine hK.out _ _ ⟨cka hHeld.1, cka hHeld.2.1, cka hHeld.2.2.1, cka hHeld.2.2.2.1, cka hHeld.2.2.2.2.1, cka hHeld.2.2.2.2.2.1, cka hHeld.2.2.2.2.2.2.1, cka hHeld.2.2.2.2.2.2.2⟩ (fun hHeld => ?_)
        clear hK K
        (try simp only [List.setIfInBounds_toArray, List.set_cons_zero, List.set_cons_succ])
        obtain ⟨X24, g24, eY, eg⟩ : ∃ Y g, Y = X16.alloc (.cells #[.int .i64 0, .int .i64 0, .int .i64 0, .int .i64 0] 26) ∧ g = X16.heap.size := ⟨_, _, rfl, rfl⟩
        rw [← eY, ← eg]
        rw [← eY] at hHeld
        have bc : Below X16.heap.size X16 X24 := by rw [eY]; exact (Below.refl _ _).alloc (Nat.le_refl _) _
        have k_n16 : X24.heap[g24]? = some (.cells #[.int .i64 0, .int .i64 0, .int .i64 0, .int .i64 0] 26 (0, 0)) := by rw [eY, eg]; exact heap_alloc_new X16 _
        have lo_n16 : w.heap.size ≤ g24 := by rw [eg]; exact bw.size
        have ne_r_n16 : ¬ w.heap.size = g24 := ne_new k_r eg
        have ne_s_n16 : ¬ w.heap.size + 1 = g24 := ne_new k_s eg
        have ne_u_n16 : ¬ w.heap.size + 2 = g24 := ne_new k_u eg
        have ne_q_n16 : ¬ g_q = g24 := ne_new k_q eg
        have ne_both_n16 : ¬ g_both = g24 := ne_new k_both eg
        replace k_r := bk bc k_r
        replace k_s := bk bc k_s
        replace k_u := bk bc k_u
        replace k_q := bk bc k_q
        replace k_both := bk bc k_both
        replace bw := bst bc bw
        clear bc eY eg
        refine wpAnyH_ready (rs := [2]) (by kernel_rfl) (by simp) ?_
        refine (AllReadyH.cons rfl (fun K hK => ?_) AllReadyH.nil)
        go_simp
        refine (toRect4 u.a u.b u.c u.d _).mono ?_
        rintro e X25 ⟨rfl, bc⟩
        refine hK.out _ _ ⟨ck bc hHeld.1, ck bc hHeld.2.1, ck bc hHeld.2.2.1, ck bc hHeld.2.2.2.1, ck bc hHeld.2.2.2.2.1, ck bc hHeld.2.2.2.2.2.1, ck bc hHeld.2.2.2.2.2.2.1, ck bc hHeld.2.2.2.2.2.2.2⟩ (fun hHeld => ?_)
        clear hK K
        (try simp only [List.setIfInBounds_toArray, List.set_cons_zero, List.set_cons_succ])
        replace k_r := bk bc k_r
        replace k_s := bk bc k_s
        replace k_u := bk bc k_u
        replace k_q := bk bc k_q
        replace k_both := bk bc k_both
        replace k_n16 := bk bc k_n16
        replace bw := bst bc bw
        clear bc
        refine wpAnyH_ready (rs := [3]) (by kernel_rfl) (by simp) ?_
        refine (AllReadyH.cons rfl (fun K hK => ?_) AllReadyH.nil)
        go_simp
        refine (common_some p1 u p2 HC2.out _).mono ?_
        rintro e X26 ⟨rfl, bc⟩
        refine hK.out _ _ ⟨ck bc hHeld.1, ck bc hHeld.2.1, ck bc hHeld.2.2.1, ck bc hHeld.2.2.2.1, ck bc hHeld.2.2.2.2.1, ck bc hHeld.2.2.2.2.2.1, ck bc hHeld.2.2.2.2.2.2.1, ck bc hHeld.2.2.2.2.2.2.2⟩ (fun hHeld => ?_)
        clear hK K
        (try simp only [List.setIfInBounds_toArray, List.set_cons_zero, List.set_cons_succ])
        replace k_r := bk bc k_r
        replace k_s := bk bc k_s
        replace k_u := bk bc k_u
        replace k_q := bk bc k_q
        replace k_both := bk bc k_both
        replace k_n16 := bk bc k_n16
        replace bw := bst bc bw
        clear bc
        refine takx (i := 4) (D := 42) (v := .tuple #[.agg #[.int .i64 p2.a, .int .i64 p2.b, .int .i64 p2.c, .int .i64 p2.d], .bool true]) rfl rfl (by kernel_rfl) (by kernel_rfl) (by kernel_rfl) (fun _ _ _ h => h) (Or.inl ⟨by rfl, fun W hSw => by (try dsimp only at hSw); go_simp⟩) (by assumption) ?_
        (try simp only [List.setIfInBounds_toArray, List.set_cons_zero, List.set_cons_succ])
        refine takx (i := 5) (D := 47) (v := .agg #[.int .i64 p2.a, .int .i64 p2.b, .int .i64 p2.c, .int .i64 p2.d]) rfl rfl (by kernel_rfl) (by kernel_rfl) (by kernel_rfl) (fun _ _ _ h => h) (Or.inl ⟨by rfl, fun W hSw => by (try dsimp only at hSw); go_simp⟩) (by assumption) ?_
        (try simp only [List.setIfInBounds_toArray, List.set_cons_zero, List.set_cons_succ])
        refine takx (i := 6) (D := 48) (v := .bool true) rfl rfl (by kernel_rfl) (by kernel_rfl) (by kernel_rfl) (fun _ _ _ h => h) (Or.inl ⟨by rfl, fun W hSw => by (try dsimp only at hSw); go_simp⟩) (by assumption) ?_
        (try simp only [List.setIfInBounds_toArray, List.set_cons_zero, List.set_cons_succ])
        refine wpAnyH_ready (rs := [8]) (by kernel_rfl) (by simp) ?_
        refine (AllReadyH.cons rfl (fun K hK => ?_) AllReadyH.nil)
        have qq := q4c k_n16
        go_simp
        clear qq
        refine hK.out _ _ ⟨(cks ne_both_n16 (cks ne_both_n16 (cks ne_both_n16 (cks ne_both_n16 hHeld.1)))), (cks ne_both_n16 (cks ne_both_n16 (cks ne_both_n16 (cks ne_both_n16 hHeld.2.1)))), (cks ne_both_n16 (cks ne_both_n16 (cks ne_both_n16 (cks ne_both_n16 hHeld.2.2.1)))), (cks ne_both_n16 (cks ne_both_n16 (cks ne_both_n16 (cks ne_both_n16 hHeld.2.2.2.1)))), (cks ne_u_n16 (cks ne_u_n16 (cks ne_u_n16 (cks ne_u_n16 hHeld.2.2.2.2.1)))), (cks ne_u_n16 (cks ne_u_n16 (cks ne_u_n16 (cks ne_u_n16 hHeld.2.2.2.2.2.1)))), (cks ne_u_n16 (cks ne_u_n16 (cks ne_u_n16 (cks ne_u_n16 hHeld.2.2.2.2.2.2.1)))), (cks ne_u_n16 (cks ne_u_n16 (cks ne_u_n16 (cks ne_u_n16 hHeld.2.2.2.2.2.2.2))))⟩ (fun hHeld => ?_)
        clear hK K
        (try simp only [List.setIfInBounds_toArray, List.set_cons_zero, List.set_cons_succ])
        obtain ⟨X27, eY⟩ : ∃ Y, Y = ((((X26.setCell ⟨g24, 0, none⟩ (.int .i64 p2.a)).setCell ⟨g24, 1, none⟩ (.int .i64 p2.b)).setCell ⟨g24, 2, none⟩ (.int .i64 p2.c)).setCell ⟨g24, 3, none⟩ (.int .i64 p2.d)) := ⟨_, rfl⟩
        rw [← eY] at hHeld ⊢
        replace k_r : X27.heap[w.heap.size]? = some (.cells #[.int .i64 a, .int .i64 b, .int .i64 c, .int .i64 d] 23 (0, 0)) := by rw [eY]; exact (bks ne_r_n16 (bks ne_r_n16 (bks ne_r_n16 (bks ne_r_n16 k_r))))
        replace k_s : X27.heap[w.heap.size + 1]? = some (.cells #[.int .i64 s.a, .int .i64 s.b, .int .i64 s.c, .int .i64 s.d] 23 (0, 0)) := by rw [eY]; exact (bks ne_s_n16 (bks ne_s_n16 (bks ne_s_n16 (bks ne_s_n16 k_s))))
        replace k_u : X27.heap[w.heap.size + 2]? = some (.cells #[.int .i64 u.a, .int .i64 u.b, .int .i64 u.c, .int .i64 u.d] 23 (0, 0)) := by rw [eY]; exact (bks ne_u_n16 (bks ne_u_n16 (bks ne_u_n16 (bks ne_u_n16 k_u))))
        replace k_q : X27.heap[g_q]? = some (.cells #[.int .i64 a, .int .i64 b, .int .i64 c, .int .i64 d] 26 (0, 0)) := by rw [eY]; exact (bks ne_q_n16 (bks ne_q_n16 (bks ne_q_n16 (bks ne_q_n16 k_q))))
        replace k_both : X27.heap[g_both]? = some (.cells #[.int .i64 p1.a, .int .i64 p1.b, .int .i64 p1.c, .int .i64 p1.d] 26 (0, 0)) := by rw [eY]; exact (bks ne_both_n16 (bks ne_both_n16 (bks ne_both_n16 (bks ne_both_n16 k_both))))
        replace bw : Below w.heap.size w X27 := by rw [eY]; exact (bss lo_n16 (bss lo_n16 (bss lo_n16 (bss lo_n16 bw))))
        replace k_n16 : X27.heap[g24]? = some (.cells #[.int .i64 p2.a, .int .i64 p2.b, .int .i64 p2.c, .int .i64 p2.d] 26 (0, 0)) := by rw [eY]; exact q4s k_n16
        clear eY
        refine takx (i := 9) (D := 17) (v := .bool true) rfl rfl (by kernel_rfl) (by kernel_rfl) (by kernel_rfl) (fun _ _ _ h => h) (Or.inl ⟨by rfl, fun W hSw => by (try dsimp only at hSw); go_simp⟩) (by assumption) ?_
        (try simp only [List.setIfInBounds_toArray, List.set_cons_zero, List.set_cons_succ])
        refine wpAnyH_done (by kernel_rfl) ?_ _
        go_wp2_with fail
        go_meet
        exact ⟨_, rfl, rfl, k_n16, k_r, k_s, k_u, k_q, k_both, bw⟩
    case rest =>
      clear k_r k_s k_u k_q k_both bw
      obtain ⟨g_all, rfl, rfl, k_all, k_r, k_s, k_u, k_q, k_both, BW⟩ := hcut
      have bw := BW.out
      clear BW
      have q_r := q4c k_r
      have q_s := q4c k_s
      have q_u := q4c k_u
      have q_q := q4c k_q
      have q_both := q4c k_both
      have q_all := q4c k_all
      go_wp2_with fail
      refine (has_yes p2.a p2.b p2.c p2.d x y HI.out _).mono ?_
      rintro e Y29 ⟨rfl, bc⟩
      clear q_r q_s q_u q_q q_both q_all
      replace k_r := bk bc k_r
      replace k_s := bk bc k_s
      replace k_u := bk bc k_u
      replace k_q := bk bc k_q
      replace k_both := bk bc k_both
      replace k_all := bk bc k_all
      replace bw := bst bc bw
      clear bc
      have q_r := q4c k_r
      have q_s := q4c k_s
      have q_u := q4c k_u
      have q_q := q4c k_q
      have q_both := q4c k_both
      have q_all := q4c k_all
      go_upto_region 8 with fail
      clear q_r q_s q_u q_q q_both q_all
      go_cut [18, 19] (fun s18 s19 wx => ∃ (g_read : Nat) (g_place : Nat), s18 = .pointer (some ⟨g_read, 0, none⟩) ∧ s19 = .pointer (some ⟨g_place, 0, none⟩) ∧ wx.heap[g_read]? = some (.cells #[.int .i64 2, .int .i64 x, .int .i64 y, .int .i64 0, .int .i64 0, .int .i64 0, .int .i64 0, .int .i64 0, .int .i64 0, .int .i64 0, .int .i64 0] 62 (0, 0)) ∧ wx.heap[g_place]? = some (.cells #[.int .i64 3, .int .i64 p2.a, .int .i64 p2.b, .int .i64 0, .int .i64 0, .int .i64 0, .int .i64 0, .int .i64 0, .int .i64 0, .int .i64 0, .int .i64 0] 62 (0, 0)) ∧ wx.heap[w.heap.size]? = some (.cells #[.int .i64 a, .int .i64 b, .int .i64 c, .int .i64 d] 23 (0, 0)) ∧ wx.heap[w.heap.size + 1]? = some (.cells #[.int .i64 s.a, .int .i64 s.b, .int .i64 s.c, .int .i64 s.d] 23 (0, 0)) ∧ wx.heap[w.heap.size + 2]? = some (.cells #[.int .i64 u.a, .int .i64 u.b, .int .i64 u.c, .int .i64 u.d] 23 (0, 0)) ∧ wx.heap[g_q]? = some (.cells #[.int .i64 a, .int .i64 b, .int .i64 c, .int .i64 d] 26 (0, 0)) ∧ wx.heap[g_both]? = some (.cells #[.int .i64 p1.a, .int .i64 p1.b, .int .i64 p1.c, .int .i64 p1.d] 26 (0, 0)) ∧ wx.heap[g_all]? = some (.cells #[.int .i64 p2.a, .int .i64 p2.b, .int .i64 p2.c, .int .i64 p2.d] 26 (0, 0)) ∧ Hid (Below w.heap.size w wx))
      case first =>
        refine wp_region_held_drew (S := fun w' => w'.cell? ⟨g_all, 0, none⟩ = some (.int .i64 p2.a) ∧ w'.cell? ⟨g_all, 1, none⟩ = some (.int .i64 p2.b) ∧ w'.cell? ⟨g_all, 2, none⟩ = some (.int .i64 p2.c) ∧ w'.cell? ⟨g_all, 3, none⟩ = some (.int .i64 p2.d)) (by kernel_rfl) ⟨(q4c k_all).1.1, (q4c k_all).1.2.1, (q4c k_all).1.2.2.1, (q4c k_all).1.2.2.2⟩ ?_
        intro hHeld
        obtain ⟨X30, eX, bc⟩ : ∃ X, X = Y29.drew ∧ Below Y29.heap.size Y29 X := ⟨_, rfl, (Below.refl _ _).drew⟩
        rw [← eX] at hHeld ⊢
        replace k_r := bk bc k_r
        replace k_s := bk bc k_s
        replace k_u := bk bc k_u
        replace k_q := bk bc k_q
        replace k_both := bk bc k_both
        replace k_all := bk bc k_all
        replace bw := bst bc bw
        clear eX bc
        refine takx (i := 0) (D := 58) (v := .int .i64 x) rfl rfl (by kernel_rfl) (by kernel_rfl) (by kernel_rfl) (fun _ _ _ h => h) (Or.inl ⟨by rfl, fun W hSw => by (try dsimp only at hSw); go_simp⟩) (by assumption) ?_
        (try simp only [List.setIfInBounds_toArray, List.set_cons_zero, List.set_cons_succ])
        refine takx (i := 1) (D := 59) (v := .int .i64 y) rfl rfl (by kernel_rfl) (by kernel_rfl) (by kernel_rfl) (fun _ _ _ h => h) (Or.inl ⟨by rfl, fun W hSw => by (try dsimp only at hSw); go_simp⟩) (by assumption) ?_
        (try simp only [List.setIfInBounds_toArray, List.set_cons_zero, List.set_cons_succ])
        refine takx (i := 2) (D := 60) (v := .agg #[.int .i64 2, .int .i64 x, .int .i64 y, .int .i64 0, .int .i64 0, .int .i64 0, .int .i64 0, .int .i64 0, .int .i64 0, .int .i64 0, .int .i64 0]) rfl rfl (by kernel_rfl) (by kernel_rfl) (by kernel_rfl) (fun _ _ _ h => h) (Or.inl ⟨by rfl, fun W hSw => by (try dsimp only at hSw); go_simp⟩) (by assumption) ?_
        (try simp only [List.setIfInBounds_toArray, List.set_cons_zero, List.set_cons_succ])
        refine takx (i := 3) (D := 61) (v := .pointer (some ⟨g_all, 0, none⟩)) rfl rfl (by kernel_rfl) (by kernel_rfl) (by kernel_rfl) (fun _ _ _ h => h) (Or.inl ⟨by rfl, fun W hSw => by (try dsimp only at hSw); go_simp⟩) (by assumption) ?_
        (try simp only [List.setIfInBounds_toArray, List.set_cons_zero, List.set_cons_succ])
        refine takx (i := 4) (D := 62) (v := .int .i64 p2.a) rfl rfl (by kernel_rfl) (by kernel_rfl) (by kernel_rfl) (fun _ _ _ h => h) (Or.inl ⟨by rfl, fun W hSw => by (try dsimp only at hSw); go_simp⟩) (by assumption) ?_
        (try simp only [List.setIfInBounds_toArray, List.set_cons_zero, List.set_cons_succ])
        refine takx (i := 5) (D := 63) (v := .pointer (some ⟨g_all, 1, none⟩)) rfl rfl (by kernel_rfl) (by kernel_rfl) (by kernel_rfl) (fun _ _ _ h => h) (Or.inl ⟨by rfl, fun W hSw => by (try dsimp only at hSw); go_simp⟩) (by assumption) ?_
        (try simp only [List.setIfInBounds_toArray, List.set_cons_zero, List.set_cons_succ])
        refine takx (i := 6) (D := 64) (v := .int .i64 p2.b) rfl rfl (by kernel_rfl) (by kernel_rfl) (by kernel_rfl) (fun _ _ _ h => h) (Or.inl ⟨by rfl, fun W hSw => by (try dsimp only at hSw); go_simp⟩) (by assumption) ?_
        (try simp only [List.setIfInBounds_toArray, List.set_cons_zero, List.set_cons_succ])
        refine takx (i := 7) (D := 65) (v := .agg #[.int .i64 3, .int .i64 p2.a, .int .i64 p2.b, .int .i64 0, .int .i64 0, .int .i64 0, .int .i64 0, .int .i64 0, .int .i64 0, .int .i64 0, .int .i64 0]) rfl rfl (by kernel_rfl) (by kernel_rfl) (by kernel_rfl) (fun _ _ _ h => h) (Or.inl ⟨by rfl, fun W hSw => by (try dsimp only at hSw); go_simp⟩) (by assumption) ?_
        (try simp only [List.setIfInBounds_toArray, List.set_cons_zero, List.set_cons_succ])
        refine wpAnyH_ready (rs := [8, 9]) (by kernel_rfl) (by simp) ?_
        refine (AllReadyH.cons rfl (fun K hK => ?_) (AllReadyH.cons rfl (fun K hK => ?_) AllReadyH.nil))
        · go_simp
          refine hK.out _ _ ⟨cka hHeld.1, cka hHeld.2.1, cka hHeld.2.2.1, cka hHeld.2.2.2⟩ (fun hHeld => ?_)
          clear hK K
          (try simp only [List.setIfInBounds_toArray, List.set_cons_zero, List.set_cons_succ])
          obtain ⟨X31, g31, eY, eg⟩ : ∃ Y g, Y = X30.alloc (.cells #[.int .i64 0, .int .i64 0, .int .i64 0, .int .i64 0, .int .i64 0, .int .i64 0, .int .i64 0, .int .i64 0, .int .i64 0, .int .i64 0, .int .i64 0] 62) ∧ g = X30.heap.size := ⟨_, _, rfl, rfl⟩
          rw [← eY, ← eg]
          rw [← eY] at hHeld
          have bc : Below X30.heap.size X30 X31 := by rw [eY]; exact (Below.refl _ _).alloc (Nat.le_refl _) _
          have k_n18 : X31.heap[g31]? = some (.cells #[.int .i64 0, .int .i64 0, .int .i64 0, .int .i64 0, .int .i64 0, .int .i64 0, .int .i64 0, .int .i64 0, .int .i64 0, .int .i64 0, .int .i64 0] 62 (0, 0)) := by rw [eY, eg]; exact heap_alloc_new X30 _
          have lo_n18 : w.heap.size ≤ g31 := by rw [eg]; exact bw.size
          have ne_r_n18 : ¬ w.heap.size = g31 := ne_new k_r eg
          have ne_s_n18 : ¬ w.heap.size + 1 = g31 := ne_new k_s eg
          have ne_u_n18 : ¬ w.heap.size + 2 = g31 := ne_new k_u eg
          have ne_q_n18 : ¬ g_q = g31 := ne_new k_q eg
          have ne_both_n18 : ¬ g_both = g31 := ne_new k_both eg
          have ne_all_n18 : ¬ g_all = g31 := ne_new k_all eg
          replace k_r := bk bc k_r
          replace k_s := bk bc k_s
          replace k_u := bk bc k_u
          replace k_q := bk bc k_q
          replace k_both := bk bc k_both
          replace k_all := bk bc k_all
          replace bw := bst bc bw
          clear bc eY eg
          refine wpAnyH_ready (rs := [9]) (by kernel_rfl) (by simp) ?_
          refine (AllReadyH.cons rfl (fun K hK => ?_) AllReadyH.nil)
          go_simp
          refine hK.out _ _ ⟨cka hHeld.1, cka hHeld.2.1, cka hHeld.2.2.1, cka hHeld.2.2.2⟩ (fun hHeld => ?_)
          clear hK K
          (try simp only [List.setIfInBounds_toArray, List.set_cons_zero, List.set_cons_succ])
          obtain ⟨X32, g32, eY, eg⟩ : ∃ Y g, Y = X31.alloc (.cells #[.int .i64 0, .int .i64 0, .int .i64 0, .int .i64 0, .int .i64 0, .int .i64 0, .int .i64 0, .int .i64 0, .int .i64 0, .int .i64 0, .int .i64 0] 62) ∧ g = X31.heap.size := ⟨_, _, rfl, rfl⟩
          rw [← eY, ← eg]
          rw [← eY] at hHeld
          have bc : Below X31.heap.size X31 X32 := by rw [eY]; exact (Below.refl _ _).alloc (Nat.le_refl _) _
          have k_n19 : X32.heap[g32]? = some (.cells #[.int .i64 0, .int .i64 0, .int .i64 0, .int .i64 0, .int .i64 0, .int .i64 0, .int .i64 0, .int .i64 0, .int .i64 0, .int .i64 0, .int .i64 0] 62 (0, 0)) := by rw [eY, eg]; exact heap_alloc_new X31 _
          have lo_n19 : w.heap.size ≤ g32 := by rw [eg]; exact bw.size
          have ne_r_n19 : ¬ w.heap.size = g32 := ne_new k_r eg
          have ne_s_n19 : ¬ w.heap.size + 1 = g32 := ne_new k_s eg
          have ne_u_n19 : ¬ w.heap.size + 2 = g32 := ne_new k_u eg
          have ne_q_n19 : ¬ g_q = g32 := ne_new k_q eg
          have ne_both_n19 : ¬ g_both = g32 := ne_new k_both eg
          have ne_all_n19 : ¬ g_all = g32 := ne_new k_all eg
          have ne_n18_n19 : ¬ g31 = g32 := ne_new k_n18 eg
          have ne_n19_n18 : ¬ g32 = g31 := fun e => ne_new k_n18 eg e.symm
          replace k_r := bk bc k_r
          replace k_s := bk bc k_s
          replace k_u := bk bc k_u
          replace k_q := bk bc k_q
          replace k_both := bk bc k_both
          replace k_all := bk bc k_all
          replace k_n18 := bk bc k_n18
          replace bw := bst bc bw
          clear bc eY eg
          refine wpAnyH_ready (rs := [10]) (by kernel_rfl) (by simp) ?_
          refine (AllReadyH.cons rfl (fun K hK => ?_) AllReadyH.nil)
          have qq := q11z k_n18
          go_simp
          clear qq
          refine hK.out _ _ ⟨(cks ne_all_n18 (cks ne_all_n18 (cks ne_all_n18 (cks ne_all_n18 (cks ne_all_n18 (cks ne_all_n18 (cks ne_all_n18 (cks ne_all_n18 (cks ne_all_n18 (cks ne_all_n18 (cks ne_all_n18 hHeld.1))))))))))), (cks ne_all_n18 (cks ne_all_n18 (cks ne_all_n18 (cks ne_all_n18 (cks ne_all_n18 (cks ne_all_n18 (cks ne_all_n18 (cks ne_all_n18 (cks ne_all_n18 (cks ne_all_n18 (cks ne_all_n18 hHeld.2.1))))))))))), (cks ne_all_n18 (cks ne_all_n18 (cks ne_all_n18 (cks ne_all_n18 (cks ne_all_n18 (cks ne_all_n18 (cks ne_all_n18 (cks ne_all_n18 (cks ne_all_n18 (cks ne_all_n18 (cks ne_all_n18 hHeld.2.2.1))))))))))), (cks ne_all_n18 (cks ne_all_n18 (cks ne_all_n18 (cks ne_all_n18 (cks ne_all_n18 (cks ne_all_n18 (cks ne_all_n18 (cks ne_all_n18 (cks ne_all_n18 (cks ne_all_n18 (cks ne_all_n18 hHeld.2.2.2)))))))))))⟩ (fun hHeld => ?_)
          clear hK K
          (try simp only [List.setIfInBounds_toArray, List.set_cons_zero, List.set_cons_succ])
          obtain ⟨X33, eY⟩ : ∃ Y, Y = (((((((((((X32.setCell ⟨g31, 0, none⟩ (.int .i64 2)).setCell ⟨g31, 1, none⟩ (.int .i64 x)).setCell ⟨g31, 2, none⟩ (.int .i64 y)).setCell ⟨g31, 3, none⟩ (.int .i64 0)).setCell ⟨g31, 4, none⟩ (.int .i64 0)).setCell ⟨g31, 5, none⟩ (.int .i64 0)).setCell ⟨g31, 6, none⟩ (.int .i64 0)).setCell ⟨g31, 7, none⟩ (.int .i64 0)).setCell ⟨g31, 8, none⟩ (.int .i64 0)).setCell ⟨g31, 9, none⟩ (.int .i64 0)).setCell ⟨g31, 10, none⟩ (.int .i64 0)) := ⟨_, rfl⟩
          rw [← eY] at hHeld ⊢
          replace k_r : X33.heap[w.heap.size]? = some (.cells #[.int .i64 a, .int .i64 b, .int .i64 c, .int .i64 d] 23 (0, 0)) := by rw [eY]; exact (bks ne_r_n18 (bks ne_r_n18 (bks ne_r_n18 (bks ne_r_n18 (bks ne_r_n18 (bks ne_r_n18 (bks ne_r_n18 (bks ne_r_n18 (bks ne_r_n18 (bks ne_r_n18 (bks ne_r_n18 k_r)))))))))))
          replace k_s : X33.heap[w.heap.size + 1]? = some (.cells #[.int .i64 s.a, .int .i64 s.b, .int .i64 s.c, .int .i64 s.d] 23 (0, 0)) := by rw [eY]; exact (bks ne_s_n18 (bks ne_s_n18 (bks ne_s_n18 (bks ne_s_n18 (bks ne_s_n18 (bks ne_s_n18 (bks ne_s_n18 (bks ne_s_n18 (bks ne_s_n18 (bks ne_s_n18 (bks ne_s_n18 k_s)))))))))))
          replace k_u : X33.heap[w.heap.size + 2]? = some (.cells #[.int .i64 u.a, .int .i64 u.b, .int .i64 u.c, .int .i64 u.d] 23 (0, 0)) := by rw [eY]; exact (bks ne_u_n18 (bks ne_u_n18 (bks ne_u_n18 (bks ne_u_n18 (bks ne_u_n18 (bks ne_u_n18 (bks ne_u_n18 (bks ne_u_n18 (bks ne_u_n18 (bks ne_u_n18 (bks ne_u_n18 k_u)))))))))))
          replace k_q : X33.heap[g_q]? = some (.cells #[.int .i64 a, .int .i64 b, .int .i64 c, .int .i64 d] 26 (0, 0)) := by rw [eY]; exact (bks ne_q_n18 (bks ne_q_n18 (bks ne_q_n18 (bks ne_q_n18 (bks ne_q_n18 (bks ne_q_n18 (bks ne_q_n18 (bks ne_q_n18 (bks ne_q_n18 (bks ne_q_n18 (bks ne_q_n18 k_q)))))))))))
          replace k_both : X33.heap[g_both]? = some (.cells #[.int .i64 p1.a, .int .i64 p1.b, .int .i64 p1.c, .int .i64 p1.d] 26 (0, 0)) := by rw [eY]; exact (bks ne_both_n18 (bks ne_both_n18 (bks ne_both_n18 (bks ne_both_n18 (bks ne_both_n18 (bks ne_both_n18 (bks ne_both_n18 (bks ne_both_n18 (bks ne_both_n18 (bks ne_both_n18 (bks ne_both_n18 k_both)))))))))))
          replace k_all : X33.heap[g_all]? = some (.cells #[.int .i64 p2.a, .int .i64 p2.b, .int .i64 p2.c, .int .i64 p2.d] 26 (0, 0)) := by rw [eY]; exact (bks ne_all_n18 (bks ne_all_n18 (bks ne_all_n18 (bks ne_all_n18 (bks ne_all_n18 (bks ne_all_n18 (bks ne_all_n18 (bks ne_all_n18 (bks ne_all_n18 (bks ne_all_n18 (bks ne_all_n18 k_all)))))))))))
          replace k_n19 : X33.heap[g32]? = some (.cells #[.int .i64 0, .int .i64 0, .int .i64 0, .int .i64 0, .int .i64 0, .int .i64 0, .int .i64 0, .int .i64 0, .int .i64 0, .int .i64 0, .int .i64 0] 62 (0, 0)) := by rw [eY]; exact (bks ne_n19_n18 (bks ne_n19_n18 (bks ne_n19_n18 (bks ne_n19_n18 (bks ne_n19_n18 (bks ne_n19_n18 (bks ne_n19_n18 (bks ne_n19_n18 (bks ne_n19_n18 (bks ne_n19_n18 (bks ne_n19_n18 k_n19)))))))))))
          replace bw : Below w.heap.size w X33 := by rw [eY]; exact (bss lo_n18 (bss lo_n18 (bss lo_n18 (bss lo_n18 (bss lo_n18 (bss lo_n18 (bss lo_n18 (bss lo_n18 (bss lo_n18 (bss lo_n18 (bss lo_n18 bw)))))))))))
          replace k_n18 : X33.heap[g31]? = some (.cells #[.int .i64 2, .int .i64 x, .int .i64 y, .int .i64 0, .int .i64 0, .int .i64 0, .int .i64 0, .int .i64 0, .int .i64 0, .int .i64 0, .int .i64 0] 62 (0, 0)) := by rw [eY]; exact q11s k_n18
          clear eY
          refine wpAnyH_ready (rs := [11]) (by kernel_rfl) (by simp) ?_
          refine (AllReadyH.cons rfl (fun K hK => ?_) AllReadyH.nil)
          have qq := q11z k_n19
          go_simp
          clear qq
          refine hK.out _ _ ⟨(cks ne_all_n19 (cks ne_all_n19 (cks ne_all_n19 (cks ne_all_n19 (cks ne_all_n19 (cks ne_all_n19 (cks ne_all_n19 (cks ne_all_n19 (cks ne_all_n19 (cks ne_all_n19 (cks ne_all_n19 hHeld.1))))))))))), (cks ne_all_n19 (cks ne_all_n19 (cks ne_all_n19 (cks ne_all_n19 (cks ne_all_n19 (cks ne_all_n19 (cks ne_all_n19 (cks ne_all_n19 (cks ne_all_n19 (cks ne_all_n19 (cks ne_all_n19 hHeld.2.1))))))))))), (cks ne_all_n19 (cks ne_all_n19 (cks ne_all_n19 (cks ne_all_n19 (cks ne_all_n19 (cks ne_all_n19 (cks ne_all_n19 (cks ne_all_n19 (cks ne_all_n19 (cks ne_all_n19 (cks ne_all_n19 hHeld.2.2.1))))))))))), (cks ne_all_n19 (cks ne_all_n19 (cks ne_all_n19 (cks ne_all_n19 (cks ne_all_n19 (cks ne_all_n19 (cks ne_all_n19 (cks ne_all_n19 (cks ne_all_n19 (cks ne_all_n19 (cks ne_all_n19 hHeld.2.2.2)))))))))))⟩ (fun hHeld => ?_)
          clear hK K
          (try simp only [List.setIfInBounds_toArray, List.set_cons_zero, List.set_cons_succ])
          obtain ⟨X34, eY⟩ : ∃ Y, Y = (((((((((((X33.setCell ⟨g32, 0, none⟩ (.int .i64 3)).setCell ⟨g32, 1, none⟩ (.int .i64 p2.a)).setCell ⟨g32, 2, none⟩ (.int .i64 p2.b)).setCell ⟨g32, 3, none⟩ (.int .i64 0)).setCell ⟨g32, 4, none⟩ (.int .i64 0)).setCell ⟨g32, 5, none⟩ (.int .i64 0)).setCell ⟨g32, 6, none⟩ (.int .i64 0)).setCell ⟨g32, 7, none⟩ (.int .i64 0)).setCell ⟨g32, 8, none⟩ (.int .i64 0)).setCell ⟨g32, 9, none⟩ (.int .i64 0)).setCell ⟨g32, 10, none⟩ (.int .i64 0)) := ⟨_, rfl⟩
          rw [← eY] at hHeld ⊢
          replace k_r : X34.heap[w.heap.size]? = some (.cells #[.int .i64 a, .int .i64 b, .int .i64 c, .int .i64 d] 23 (0, 0)) := by rw [eY]; exact (bks ne_r_n19 (bks ne_r_n19 (bks ne_r_n19 (bks ne_r_n19 (bks ne_r_n19 (bks ne_r_n19 (bks ne_r_n19 (bks ne_r_n19 (bks ne_r_n19 (bks ne_r_n19 (bks ne_r_n19 k_r)))))))))))
          replace k_s : X34.heap[w.heap.size + 1]? = some (.cells #[.int .i64 s.a, .int .i64 s.b, .int .i64 s.c, .int .i64 s.d] 23 (0, 0)) := by rw [eY]; exact (bks ne_s_n19 (bks ne_s_n19 (bks ne_s_n19 (bks ne_s_n19 (bks ne_s_n19 (bks ne_s_n19 (bks ne_s_n19 (bks ne_s_n19 (bks ne_s_n19 (bks ne_s_n19 (bks ne_s_n19 k_s)))))))))))
          replace k_u : X34.heap[w.heap.size + 2]? = some (.cells #[.int .i64 u.a, .int .i64 u.b, .int .i64 u.c, .int .i64 u.d] 23 (0, 0)) := by rw [eY]; exact (bks ne_u_n19 (bks ne_u_n19 (bks ne_u_n19 (bks ne_u_n19 (bks ne_u_n19 (bks ne_u_n19 (bks ne_u_n19 (bks ne_u_n19 (bks ne_u_n19 (bks ne_u_n19 (bks ne_u_n19 k_u)))))))))))
          replace k_q : X34.heap[g_q]? = some (.cells #[.int .i64 a, .int .i64 b, .int .i64 c, .int .i64 d] 26 (0, 0)) := by rw [eY]; exact (bks ne_q_n19 (bks ne_q_n19 (bks ne_q_n19 (bks ne_q_n19 (bks ne_q_n19 (bks ne_q_n19 (bks ne_q_n19 (bks ne_q_n19 (bks ne_q_n19 (bks ne_q_n19 (bks ne_q_n19 k_q)))))))))))
          replace k_both : X34.heap[g_both]? = some (.cells #[.int .i64 p1.a, .int .i64 p1.b, .int .i64 p1.c, .int .i64 p1.d] 26 (0, 0)) := by rw [eY]; exact (bks ne_both_n19 (bks ne_both_n19 (bks ne_both_n19 (bks ne_both_n19 (bks ne_both_n19 (bks ne_both_n19 (bks ne_both_n19 (bks ne_both_n19 (bks ne_both_n19 (bks ne_both_n19 (bks ne_both_n19 k_both)))))))))))
          replace k_all : X34.heap[g_all]? = some (.cells #[.int .i64 p2.a, .int .i64 p2.b, .int .i64 p2.c, .int .i64 p2.d] 26 (0, 0)) := by rw [eY]; exact (bks ne_all_n19 (bks ne_all_n19 (bks ne_all_n19 (bks ne_all_n19 (bks ne_all_n19 (bks ne_all_n19 (bks ne_all_n19 (bks ne_all_n19 (bks ne_all_n19 (bks ne_all_n19 (bks ne_all_n19 k_all)))))))))))
          replace k_n18 : X34.heap[g31]? = some (.cells #[.int .i64 2, .int .i64 x, .int .i64 y, .int .i64 0, .int .i64 0, .int .i64 0, .int .i64 0, .int .i64 0, .int .i64 0, .int .i64 0, .int .i64 0] 62 (0, 0)) := by rw [eY]; exact (bks ne_n18_n19 (bks ne_n18_n19 (bks ne_n18_n19 (bks ne_n18_n19 (bks ne_n18_n19 (bks ne_n18_n19 (bks ne_n18_n19 (bks ne_n18_n19 (bks ne_n18_n19 (bks ne_n18_n19 (bks ne_n18_n19 k_n18)))))))))))
          replace bw : Below w.heap.size w X34 := by rw [eY]; exact (bss lo_n19 (bss lo_n19 (bss lo_n19 (bss lo_n19 (bss lo_n19 (bss lo_n19 (bss lo_n19 (bss lo_n19 (bss lo_n19 (bss lo_n19 (bss lo_n19 bw)))))))))))
          replace k_n19 : X34.heap[g32]? = some (.cells #[.int .i64 3, .int .i64 p2.a, .int .i64 p2.b, .int .i64 0, .int .i64 0, .int .i64 0, .int .i64 0, .int .i64 0, .int .i64 0, .int .i64 0, .int .i64 0] 62 (0, 0)) := by rw [eY]; exact q11s k_n19
          clear eY
          refine wpAnyH_done (by kernel_rfl) ?_ _
          go_wp2_with fail
          go_meet
          exact ⟨_, _, rfl, rfl, k_n18, k_n19, k_r, k_s, k_u, k_q, k_both, k_all, bw⟩
        · go_simp
          refine hK.out _ _ ⟨cka hHeld.1, cka hHeld.2.1, cka hHeld.2.2.1, cka hHeld.2.2.2⟩ (fun hHeld => ?_)
          clear hK K
          (try simp only [List.setIfInBounds_toArray, List.set_cons_zero, List.set_cons_succ])
          obtain ⟨X35, g35, eY, eg⟩ : ∃ Y g, Y = X30.alloc (.cells #[.int .i64 0, .int .i64 0, .int .i64 0, .int .i64 0, .int .i64 0, .int .i64 0, .int .i64 0, .int .i64 0, .int .i64 0, .int .i64 0, .int .i64 0] 62) ∧ g = X30.heap.size := ⟨_, _, rfl, rfl⟩
          rw [← eY, ← eg]
          rw [← eY] at hHeld
          have bc : Below X30.heap.size X30 X35 := by rw [eY]; exact (Below.refl _ _).alloc (Nat.le_refl _) _
          have k_n19 : X35.heap[g35]? = some (.cells #[.int .i64 0, .int .i64 0, .int .i64 0, .int .i64 0, .int .i64 0, .int .i64 0, .int .i64 0, .int .i64 0, .int .i64 0, .int .i64 0, .int .i64 0] 62 (0, 0)) := by rw [eY, eg]; exact heap_alloc_new X30 _
          have lo_n19 : w.heap.size ≤ g35 := by rw [eg]; exact bw.size
          have ne_r_n19 : ¬ w.heap.size = g35 := ne_new k_r eg
          have ne_s_n19 : ¬ w.heap.size + 1 = g35 := ne_new k_s eg
          have ne_u_n19 : ¬ w.heap.size + 2 = g35 := ne_new k_u eg
          have ne_q_n19 : ¬ g_q = g35 := ne_new k_q eg
          have ne_both_n19 : ¬ g_both = g35 := ne_new k_both eg
          have ne_all_n19 : ¬ g_all = g35 := ne_new k_all eg
          replace k_r := bk bc k_r
          replace k_s := bk bc k_s
          replace k_u := bk bc k_u
          replace k_q := bk bc k_q
          replace k_both := bk bc k_both
          replace k_all := bk bc k_all
          replace bw := bst bc bw
          clear bc eY eg
          refine wpAnyH_ready (rs := [8]) (by kernel_rfl) (by simp) ?_
          refine (AllReadyH.cons rfl (fun K hK => ?_) AllReadyH.nil)
          go_simp
          refine hK.out _ _ ⟨cka hHeld.1, cka hHeld.2.1, cka hHeld.2.2.1, cka hHeld.2.2.2⟩ (fun hHeld => ?_)
          clear hK K
          (try simp only [List.setIfInBounds_toArray, List.set_cons_zero, List.set_cons_succ])
          obtain ⟨X36, g36, eY, eg⟩ : ∃ Y g, Y = X35.alloc (.cells #[.int .i64 0, .int .i64 0, .int .i64 0, .int .i64 0, .int .i64 0, .int .i64 0, .int .i64 0, .int .i64 0, .int .i64 0, .int .i64 0, .int .i64 0] 62) ∧ g = X35.heap.size := ⟨_, _, rfl, rfl⟩
          rw [← eY, ← eg]
          rw [← eY] at hHeld
          have bc : Below X35.heap.size X35 X36 := by rw [eY]; exact (Below.refl _ _).alloc (Nat.le_refl _) _
          have k_n18 : X36.heap[g36]? = some (.cells #[.int .i64 0, .int .i64 0, .int .i64 0, .int .i64 0, .int .i64 0, .int .i64 0, .int .i64 0, .int .i64 0, .int .i64 0, .int .i64 0, .int .i64 0] 62 (0, 0)) := by rw [eY, eg]; exact heap_alloc_new X35 _
          have lo_n18 : w.heap.size ≤ g36 := by rw [eg]; exact bw.size
          have ne_r_n18 : ¬ w.heap.size = g36 := ne_new k_r eg
          have ne_s_n18 : ¬ w.heap.size + 1 = g36 := ne_new k_s eg
          have ne_u_n18 : ¬ w.heap.size + 2 = g36 := ne_new k_u eg
          have ne_q_n18 : ¬ g_q = g36 := ne_new k_q eg
          have ne_both_n18 : ¬ g_both = g36 := ne_new k_both eg
          have ne_all_n18 : ¬ g_all = g36 := ne_new k_all eg
          have ne_n19_n18 : ¬ g35 = g36 := ne_new k_n19 eg
          have ne_n18_n19 : ¬ g36 = g35 := fun e => ne_new k_n19 eg e.symm
          replace k_r := bk bc k_r
          replace k_s := bk bc k_s
          replace k_u := bk bc k_u
          replace k_q := bk bc k_q
          replace k_both := bk bc k_both
          replace k_all := bk bc k_all
          replace k_n19 := bk bc k_n19
          replace bw := bst bc bw
          clear bc eY eg
          refine wpAnyH_ready (rs := [10]) (by kernel_rfl) (by simp) ?_
          refine (AllReadyH.cons rfl (fun K hK => ?_) AllReadyH.nil)
          have qq := q11z k_n18
          go_simp
          clear qq
          refine hK.out _ _ ⟨(cks ne_all_n18 (cks ne_all_n18 (cks ne_all_n18 (cks ne_all_n18 (cks ne_all_n18 (cks ne_all_n18 (cks ne_all_n18 (cks ne_all_n18 (cks ne_all_n18 (cks ne_all_n18 (cks ne_all_n18 hHeld.1))))))))))), (cks ne_all_n18 (cks ne_all_n18 (cks ne_all_n18 (cks ne_all_n18 (cks ne_all_n18 (cks ne_all_n18 (cks ne_all_n18 (cks ne_all_n18 (cks ne_all_n18 (cks ne_all_n18 (cks ne_all_n18 hHeld.2.1))))))))))), (cks ne_all_n18 (cks ne_all_n18 (cks ne_all_n18 (cks ne_all_n18 (cks ne_all_n18 (cks ne_all_n18 (cks ne_all_n18 (cks ne_all_n18 (cks ne_all_n18 (cks ne_all_n18 (cks ne_all_n18 hHeld.2.2.1))))))))))), (cks ne_all_n18 (cks ne_all_n18 (cks ne_all_n18 (cks ne_all_n18 (cks ne_all_n18 (cks ne_all_n18 (cks ne_all_n18 (cks ne_all_n18 (cks ne_all_n18 (cks ne_all_n18 (cks ne_all_n18 hHeld.2.2.2)))))))))))⟩ (fun hHeld => ?_)
          clear hK K
          (try simp only [List.setIfInBounds_toArray, List.set_cons_zero, List.set_cons_succ])
          obtain ⟨X37, eY⟩ : ∃ Y, Y = (((((((((((X36.setCell ⟨g36, 0, none⟩ (.int .i64 2)).setCell ⟨g36, 1, none⟩ (.int .i64 x)).setCell ⟨g36, 2, none⟩ (.int .i64 y)).setCell ⟨g36, 3, none⟩ (.int .i64 0)).setCell ⟨g36, 4, none⟩ (.int .i64 0)).setCell ⟨g36, 5, none⟩ (.int .i64 0)).setCell ⟨g36, 6, none⟩ (.int .i64 0)).setCell ⟨g36, 7, none⟩ (.int .i64 0)).setCell ⟨g36, 8, none⟩ (.int .i64 0)).setCell ⟨g36, 9, none⟩ (.int .i64 0)).setCell ⟨g36, 10, none⟩ (.int .i64 0)) := ⟨_, rfl⟩
          rw [← eY] at hHeld ⊢
          replace k_r : X37.heap[w.heap.size]? = some (.cells #[.int .i64 a, .int .i64 b, .int .i64 c, .int .i64 d] 23 (0, 0)) := by rw [eY]; exact (bks ne_r_n18 (bks ne_r_n18 (bks ne_r_n18 (bks ne_r_n18 (bks ne_r_n18 (bks ne_r_n18 (bks ne_r_n18 (bks ne_r_n18 (bks ne_r_n18 (bks ne_r_n18 (bks ne_r_n18 k_r)))))))))))
          replace k_s : X37.heap[w.heap.size + 1]? = some (.cells #[.int .i64 s.a, .int .i64 s.b, .int .i64 s.c, .int .i64 s.d] 23 (0, 0)) := by rw [eY]; exact (bks ne_s_n18 (bks ne_s_n18 (bks ne_s_n18 (bks ne_s_n18 (bks ne_s_n18 (bks ne_s_n18 (bks ne_s_n18 (bks ne_s_n18 (bks ne_s_n18 (bks ne_s_n18 (bks ne_s_n18 k_s)))))))))))
          replace k_u : X37.heap[w.heap.size + 2]? = some (.cells #[.int .i64 u.a, .int .i64 u.b, .int .i64 u.c, .int .i64 u.d] 23 (0, 0)) := by rw [eY]; exact (bks ne_u_n18 (bks ne_u_n18 (bks ne_u_n18 (bks ne_u_n18 (bks ne_u_n18 (bks ne_u_n18 (bks ne_u_n18 (bks ne_u_n18 (bks ne_u_n18 (bks ne_u_n18 (bks ne_u_n18 k_u)))))))))))
          replace k_q : X37.heap[g_q]? = some (.cells #[.int .i64 a, .int .i64 b, .int .i64 c, .int .i64 d] 26 (0, 0)) := by rw [eY]; exact (bks ne_q_n18 (bks ne_q_n18 (bks ne_q_n18 (bks ne_q_n18 (bks ne_q_n18 (bks ne_q_n18 (bks ne_q_n18 (bks ne_q_n18 (bks ne_q_n18 (bks ne_q_n18 (bks ne_q_n18 k_q)))))))))))
          replace k_both : X37.heap[g_both]? = some (.cells #[.int .i64 p1.a, .int .i64 p1.b, .int .i64 p1.c, .int .i64 p1.d] 26 (0, 0)) := by rw [eY]; exact (bks ne_both_n18 (bks ne_both_n18 (bks ne_both_n18 (bks ne_both_n18 (bks ne_both_n18 (bks ne_both_n18 (bks ne_both_n18 (bks ne_both_n18 (bks ne_both_n18 (bks ne_both_n18 (bks ne_both_n18 k_both)))))))))))
          replace k_all : X37.heap[g_all]? = some (.cells #[.int .i64 p2.a, .int .i64 p2.b, .int .i64 p2.c, .int .i64 p2.d] 26 (0, 0)) := by rw [eY]; exact (bks ne_all_n18 (bks ne_all_n18 (bks ne_all_n18 (bks ne_all_n18 (bks ne_all_n18 (bks ne_all_n18 (bks ne_all_n18 (bks ne_all_n18 (bks ne_all_n18 (bks ne_all_n18 (bks ne_all_n18 k_all)))))))))))
          replace k_n19 : X37.heap[g35]? = some (.cells #[.int .i64 0, .int .i64 0, .int .i64 0, .int .i64 0, .int .i64 0, .int .i64 0, .int .i64 0, .int .i64 0, .int .i64 0, .int .i64 0, .int .i64 0] 62 (0, 0)) := by rw [eY]; exact (bks ne_n19_n18 (bks ne_n19_n18 (bks ne_n19_n18 (bks ne_n19_n18 (bks ne_n19_n18 (bks ne_n19_n18 (bks ne_n19_n18 (bks ne_n19_n18 (bks ne_n19_n18 (bks ne_n19_n18 (bks ne_n19_n18 k_n19)))))))))))
          replace bw : Below w.heap.size w X37 := by rw [eY]; exact (bss lo_n18 (bss lo_n18 (bss lo_n18 (bss lo_n18 (bss lo_n18 (bss lo_n18 (bss lo_n18 (bss lo_n18 (bss lo_n18 (bss lo_n18 (bss lo_n18 bw)))))))))))
          replace k_n18 : X37.heap[g36]? = some (.cells #[.int .i64 2, .int .i64 x, .int .i64 y, .int .i64 0, .int .i64 0, .int .i64 0, .int .i64 0, .int .i64 0, .int .i64 0, .int .i64 0, .int .i64 0] 62 (0, 0)) := by rw [eY]; exact q11s k_n18
          clear eY
          refine wpAnyH_ready (rs := [11]) (by kernel_rfl) (by simp) ?_
          refine (AllReadyH.cons rfl (fun K hK => ?_) AllReadyH.nil)
          have qq := q11z k_n19
          go_simp
          clear qq
          refine hK.out _ _ ⟨(cks ne_all_n19 (cks ne_all_n19 (cks ne_all_n19 (cks ne_all_n19 (cks ne_all_n19 (cks ne_all_n19 (cks ne_all_n19 (cks ne_all_n19 (cks ne_all_n19 (cks ne_all_n19 (cks ne_all_n19 hHeld.1))))))))))), (cks ne_all_n19 (cks ne_all_n19 (cks ne_all_n19 (cks ne_all_n19 (cks ne_all_n19 (cks ne_all_n19 (cks ne_all_n19 (cks ne_all_n19 (cks ne_all_n19 (cks ne_all_n19 (cks ne_all_n19 hHeld.2.1))))))))))), (cks ne_all_n19 (cks ne_all_n19 (cks ne_all_n19 (cks ne_all_n19 (cks ne_all_n19 (cks ne_all_n19 (cks ne_all_n19 (cks ne_all_n19 (cks ne_all_n19 (cks ne_all_n19 (cks ne_all_n19 hHeld.2.2.1))))))))))), (cks ne_all_n19 (cks ne_all_n19 (cks ne_all_n19 (cks ne_all_n19 (cks ne_all_n19 (cks ne_all_n19 (cks ne_all_n19 (cks ne_all_n19 (cks ne_all_n19 (cks ne_all_n19 (cks ne_all_n19 hHeld.2.2.2)))))))))))⟩ (fun hHeld => ?_)
          clear hK K
          (try simp only [List.setIfInBounds_toArray, List.set_cons_zero, List.set_cons_succ])
          obtain ⟨X38, eY⟩ : ∃ Y, Y = (((((((((((X37.setCell ⟨g35, 0, none⟩ (.int .i64 3)).setCell ⟨g35, 1, none⟩ (.int .i64 p2.a)).setCell ⟨g35, 2, none⟩ (.int .i64 p2.b)).setCell ⟨g35, 3, none⟩ (.int .i64 0)).setCell ⟨g35, 4, none⟩ (.int .i64 0)).setCell ⟨g35, 5, none⟩ (.int .i64 0)).setCell ⟨g35, 6, none⟩ (.int .i64 0)).setCell ⟨g35, 7, none⟩ (.int .i64 0)).setCell ⟨g35, 8, none⟩ (.int .i64 0)).setCell ⟨g35, 9, none⟩ (.int .i64 0)).setCell ⟨g35, 10, none⟩ (.int .i64 0)) := ⟨_, rfl⟩
          rw [← eY] at hHeld ⊢
          replace k_r : X38.heap[w.heap.size]? = some (.cells #[.int .i64 a, .int .i64 b, .int .i64 c, .int .i64 d] 23 (0, 0)) := by rw [eY]; exact (bks ne_r_n19 (bks ne_r_n19 (bks ne_r_n19 (bks ne_r_n19 (bks ne_r_n19 (bks ne_r_n19 (bks ne_r_n19 (bks ne_r_n19 (bks ne_r_n19 (bks ne_r_n19 (bks ne_r_n19 k_r)))))))))))
          replace k_s : X38.heap[w.heap.size + 1]? = some (.cells #[.int .i64 s.a, .int .i64 s.b, .int .i64 s.c, .int .i64 s.d] 23 (0, 0)) := by rw [eY]; exact (bks ne_s_n19 (bks ne_s_n19 (bks ne_s_n19 (bks ne_s_n19 (bks ne_s_n19 (bks ne_s_n19 (bks ne_s_n19 (bks ne_s_n19 (bks ne_s_n19 (bks ne_s_n19 (bks ne_s_n19 k_s)))))))))))
          replace k_u : X38.heap[w.heap.size + 2]? = some (.cells #[.int .i64 u.a, .int .i64 u.b, .int .i64 u.c, .int .i64 u.d] 23 (0, 0)) := by rw [eY]; exact (bks ne_u_n19 (bks ne_u_n19 (bks ne_u_n19 (bks ne_u_n19 (bks ne_u_n19 (bks ne_u_n19 (bks ne_u_n19 (bks ne_u_n19 (bks ne_u_n19 (bks ne_u_n19 (bks ne_u_n19 k_u)))))))))))
          replace k_q : X38.heap[g_q]? = some (.cells #[.int .i64 a, .int .i64 b, .int .i64 c, .int .i64 d] 26 (0, 0)) := by rw [eY]; exact (bks ne_q_n19 (bks ne_q_n19 (bks ne_q_n19 (bks ne_q_n19 (bks ne_q_n19 (bks ne_q_n19 (bks ne_q_n19 (bks ne_q_n19 (bks ne_q_n19 (bks ne_q_n19 (bks ne_q_n19 k_q)))))))))))
          replace k_both : X38.heap[g_both]? = some (.cells #[.int .i64 p1.a, .int .i64 p1.b, .int .i64 p1.c, .int .i64 p1.d] 26 (0, 0)) := by rw [eY]; exact (bks ne_both_n19 (bks ne_both_n19 (bks ne_both_n19 (bks ne_both_n19 (bks ne_both_n19 (bks ne_both_n19 (bks ne_both_n19 (bks ne_both_n19 (bks ne_both_n19 (bks ne_both_n19 (bks ne_both_n19 k_both)))))))))))
          replace k_all : X38.heap[g_all]? = some (.cells #[.int .i64 p2.a, .int .i64 p2.b, .int .i64 p2.c, .int .i64 p2.d] 26 (0, 0)) := by rw [eY]; exact (bks ne_all_n19 (bks ne_all_n19 (bks ne_all_n19 (bks ne_all_n19 (bks ne_all_n19 (bks ne_all_n19 (bks ne_all_n19 (bks ne_all_n19 (bks ne_all_n19 (bks ne_all_n19 (bks ne_all_n19 k_all)))))))))))
          replace k_n18 : X38.heap[g36]? = some (.cells #[.int .i64 2, .int .i64 x, .int .i64 y, .int .i64 0, .int .i64 0, .int .i64 0, .int .i64 0, .int .i64 0, .int .i64 0, .int .i64 0, .int .i64 0] 62 (0, 0)) := by rw [eY]; exact (bks ne_n18_n19 (bks ne_n18_n19 (bks ne_n18_n19 (bks ne_n18_n19 (bks ne_n18_n19 (bks ne_n18_n19 (bks ne_n18_n19 (bks ne_n18_n19 (bks ne_n18_n19 (bks ne_n18_n19 (bks ne_n18_n19 k_n18)))))))))))
          replace bw : Below w.heap.size w X38 := by rw [eY]; exact (bss lo_n19 (bss lo_n19 (bss lo_n19 (bss lo_n19 (bss lo_n19 (bss lo_n19 (bss lo_n19 (bss lo_n19 (bss lo_n19 (bss lo_n19 (bss lo_n19 bw)))))))))))
          replace k_n19 : X38.heap[g35]? = some (.cells #[.int .i64 3, .int .i64 p2.a, .int .i64 p2.b, .int .i64 0, .int .i64 0, .int .i64 0, .int .i64 0, .int .i64 0, .int .i64 0, .int .i64 0, .int .i64 0] 62 (0, 0)) := by rw [eY]; exact q11s k_n19
          clear eY
          refine wpAnyH_done (by kernel_rfl) ?_ _
          go_wp2_with fail
          go_meet
          exact ⟨_, _, rfl, rfl, k_n18, k_n19, k_r, k_s, k_u, k_q, k_both, k_all, bw⟩
      case rest =>
        clear k_r k_s k_u k_q k_both k_all bw
        obtain ⟨g_read, g_place, rfl, rfl, k_read, k_place, k_r, k_s, k_u, k_q, k_both, k_all, BW⟩ := hcut
        have bw := BW.out
        clear BW
        have q_r := q4c k_r
        have q_s := q4c k_s
        have q_u := q4c k_u
        have q_q := q4c k_q
        have q_both := q4c k_both
        have q_all := q4c k_all
        have q_read := q11c k_read
        have q_place := q11c k_place
        go_upto_region 9 with fail
        clear q_r q_s q_u q_q q_both q_all q_read q_place
        go_cut [22, 20, 21] (fun s22 s20 s21 wx => ∃ (g_p : Nat) (A1 : Option Addr) (c1 : Nat) (A2 : Option Addr) (c2 : Nat) (A3 : Option Addr) (c3 : Nat), s22 = .pointer (some ⟨g_p, 0, none⟩) ∧ s20 = .slice A1 1 c1 ∧ s21 = .slice A2 1 c2 ∧ wx.heap[g_p]? = some (.cells #[.int .i64 a, .int .i64 b, .int .i64 c, .int .i64 d, .int .i64 (c - a), .slice A3 N c3] 29 (0, 0)) ∧ wx.heap[w.heap.size]? = some (.cells #[.int .i64 a, .int .i64 b, .int .i64 c, .int .i64 d] 23 (0, 0)) ∧ wx.heap[w.heap.size + 1]? = some (.cells #[.int .i64 s.a, .int .i64 s.b, .int .i64 s.c, .int .i64 s.d] 23 (0, 0)) ∧ wx.heap[w.heap.size + 2]? = some (.cells #[.int .i64 u.a, .int .i64 u.b, .int .i64 u.c, .int .i64 u.d] 23 (0, 0)) ∧ wx.heap[g_q]? = some (.cells #[.int .i64 a, .int .i64 b, .int .i64 c, .int .i64 d] 26 (0, 0)) ∧ wx.heap[g_both]? = some (.cells #[.int .i64 p1.a, .int .i64 p1.b, .int .i64 p1.c, .int .i64 p1.d] 26 (0, 0)) ∧ wx.heap[g_all]? = some (.cells #[.int .i64 p2.a, .int .i64 p2.b, .int .i64 p2.c, .int .i64 p2.d] 26 (0, 0)) ∧ wx.heap[g_read]? = some (.cells #[.int .i64 2, .int .i64 x, .int .i64 y, .int .i64 0, .int .i64 0, .int .i64 0, .int .i64 0, .int .i64 0, .int .i64 0, .int .i64 0, .int .i64 0] 62 (0, 0)) ∧ wx.heap[g_place]? = some (.cells #[.int .i64 3, .int .i64 p2.a, .int .i64 p2.b, .int .i64 0, .int .i64 0, .int .i64 0, .int .i64 0, .int .i64 0, .int .i64 0, .int .i64 0, .int .i64 0] 62 (0, 0)) ∧ Hid (Rd wx wx.heap.size A1 1 [rdAt (byt N zs) a b c d x y]) ∧ Hid (Rd wx wx.heap.size A2 1 [0]) ∧ Hid (Below w.heap.size w wx))
        case first =>
          refine wp_region_held_drew (S := fun w' => w'.cell? ⟨g_q, 0, none⟩ = some (.int .i64 a) ∧ w'.cell? ⟨g_q, 1, none⟩ = some (.int .i64 b) ∧ w'.cell? ⟨g_q, 2, none⟩ = some (.int .i64 c) ∧ w'.cell? ⟨g_q, 3, none⟩ = some (.int .i64 d) ∧ w'.cell? ⟨w.heap.size + 1, 0, none⟩ = some (.int .i64 s.a) ∧ w'.cell? ⟨w.heap.size + 1, 1, none⟩ = some (.int .i64 s.b) ∧ w'.cell? ⟨w.heap.size + 1, 2, none⟩ = some (.int .i64 s.c) ∧ w'.cell? ⟨w.heap.size + 1, 3, none⟩ = some (.int .i64 s.d) ∧ w'.cell? ⟨w.heap.size + 2, 0, none⟩ = some (.int .i64 u.a) ∧ w'.cell? ⟨w.heap.size + 2, 1, none⟩ = some (.int .i64 u.b) ∧ w'.cell? ⟨w.heap.size + 2, 2, none⟩ = some (.int .i64 u.c) ∧ w'.cell? ⟨w.heap.size + 2, 3, none⟩ = some (.int .i64 u.d) ∧ w'.cell? ⟨g_read, 0, none⟩ = some (.int .i64 2) ∧ w'.cell? ⟨g_read, 1, none⟩ = some (.int .i64 x) ∧ w'.cell? ⟨g_read, 2, none⟩ = some (.int .i64 y) ∧ w'.cell? ⟨g_read, 3, none⟩ = some (.int .i64 0) ∧ w'.cell? ⟨g_read, 4, none⟩ = some (.int .i64 0) ∧ w'.cell? ⟨g_read, 5, none⟩ = some (.int .i64 0) ∧ w'.cell? ⟨g_read, 6, none⟩ = some (.int .i64 0) ∧ w'.cell? ⟨g_read, 7, none⟩ = some (.int .i64 0) ∧ w'.cell? ⟨g_read, 8, none⟩ = some (.int .i64 0) ∧ w'.cell? ⟨g_read, 9, none⟩ = some (.int .i64 0) ∧ w'.cell? ⟨g_read, 10, none⟩ = some (.int .i64 0) ∧ w'.cell? ⟨g_place, 0, none⟩ = some (.int .i64 3) ∧ w'.cell? ⟨g_place, 1, none⟩ = some (.int .i64 p2.a) ∧ w'.cell? ⟨g_place, 2, none⟩ = some (.int .i64 p2.b) ∧ w'.cell? ⟨g_place, 3, none⟩ = some (.int .i64 0) ∧ w'.cell? ⟨g_place, 4, none⟩ = some (.int .i64 0) ∧ w'.cell? ⟨g_place, 5, none⟩ = some (.int .i64 0) ∧ w'.cell? ⟨g_place, 6, none⟩ = some (.int .i64 0) ∧ w'.cell? ⟨g_place, 7, none⟩ = some (.int .i64 0) ∧ w'.cell? ⟨g_place, 8, none⟩ = some (.int .i64 0) ∧ w'.cell? ⟨g_place, 9, none⟩ = some (.int .i64 0) ∧ w'.cell? ⟨g_place, 10, none⟩ = some (.int .i64 0)) (by kernel_rfl) ⟨(q4c k_q).1.1, (q4c k_q).1.2.1, (q4c k_q).1.2.2.1, (q4c k_q).1.2.2.2, (q4c k_s).1.1, (q4c k_s).1.2.1, (q4c k_s).1.2.2.1, (q4c k_s).1.2.2.2, (q4c k_u).1.1, (q4c k_u).1.2.1, (q4c k_u).1.2.2.1, (q4c k_u).1.2.2.2, (q11c k_read).1.1, (q11c k_read).1.2.1, (q11c k_read).1.2.2.1, (q11c k_read).1.2.2.2.1, (q11c k_read).1.2.2.2.2.1, (q11c k_read).1.2.2.2.2.2.1, (q11c k_read).1.2.2.2.2.2.2.1, (q11c k_read).1.2.2.2.2.2.2.2.1, (q11c k_read).1.2.2.2.2.2.2.2.2.1, (q11c k_read).1.2.2.2.2.2.2.2.2.2.1, (q11c k_read).1.2.2.2.2.2.2.2.2.2.2, (q11c k_place).1.1, (q11c k_place).1.2.1, (q11c k_place).1.2.2.1, (q11c k_place).1.2.2.2.1, (q11c k_place).1.2.2.2.2.1, (q11c k_place).1.2.2.2.2.2.1, (q11c k_place).1.2.2.2.2.2.2.1, (q11c k_place).1.2.2.2.2.2.2.2.1, (q11c k_place).1.2.2.2.2.2.2.2.2.1, (q11c k_place).1.2.2.2.2.2.2.2.2.2.1, (q11c k_place).1.2.2.2.2.2.2.2.2.2.2⟩ ?_
          intro hHeld
          obtain ⟨X40, eX, bc⟩ : ∃ X, X = wc.drew ∧ Below wc.heap.size wc X := ⟨_, rfl, (Below.refl _ _).drew⟩
          rw [← eX] at hHeld ⊢
          replace k_r := bk bc k_r
          replace k_s := bk bc k_s
          replace k_u := bk bc k_u
          replace k_q := bk bc k_q
          replace k_both := bk bc k_both
          replace k_all := bk bc k_all
          replace k_read := bk bc k_read
          replace k_place := bk bc k_place
          replace bw := bst bc bw
          (try replace r1 := (r1.below bc).more bc.size)
          (try replace r2 := (r2.below bc).more bc.size)
          clear eX bc
          refine takx (i := 0) (D := 67) (v := .agg #[.int .i64 a, .int .i64 b, .int .i64 c, .int .i64 d]) rfl rfl (by kernel_rfl) (by kernel_rfl) (by kernel_rfl) (fun _ _ _ h => h) (Or.inl ⟨by rfl, fun W hSw => by (try dsimp only at hSw); go_simp⟩) (by assumption) ?_
          (try simp only [List.setIfInBounds_toArray, List.set_cons_zero, List.set_cons_succ])
          refine takx (i := 1) (D := 68) (v := .slice Z n cp) rfl rfl (by kernel_rfl) (by kernel_rfl) (by kernel_rfl) (fun _ _ _ h => h) (Or.inl ⟨by rfl, fun W hSw => by (try dsimp only at hSw); go_simp⟩) (by assumption) ?_
          (try simp only [List.setIfInBounds_toArray, List.set_cons_zero, List.set_cons_succ])
          refine takx (i := 2) (D := 69) (v := .agg #[.int .i64 s.a, .int .i64 s.b, .int .i64 s.c, .int .i64 s.d]) rfl rfl (by kernel_rfl) (by kernel_rfl) (by kernel_rfl) (fun _ _ _ h => h) (Or.inl ⟨by rfl, fun W hSw => by (try dsimp only at hSw); go_simp⟩) (by assumption) ?_
          (try simp only [List.setIfInBounds_toArray, List.set_cons_zero, List.set_cons_succ])
          refine takx (i := 5) (D := 72) (v := .agg #[.int .i64 u.a, .int .i64 u.b, .int .i64 u.c, .int .i64 u.d]) rfl rfl (by kernel_rfl) (by kernel_rfl) (by kernel_rfl) (fun _ _ _ h => h) (Or.inl ⟨by rfl, fun W hSw => by (try dsimp only at hSw); go_simp⟩) (by assumption) ?_
          (try simp only [List.setIfInBounds_toArray, List.set_cons_zero, List.set_cons_succ])
          refine takx (i := 8) (D := 75) (v := .agg #[.int .i64 2, .int .i64 x, .int .i64 y, .int .i64 0, .int .i64 0, .int .i64 0, .int .i64 0, .int .i64 0, .int .i64 0, .int .i64 0, .int .i64 0]) rfl rfl (by kernel_rfl) (by kernel_rfl) (by kernel_rfl) (fun _ _ _ h => h) (Or.inl ⟨by rfl, fun W hSw => by (try dsimp only at hSw); go_simp⟩) (by assumption) ?_
          (try simp only [List.setIfInBounds_toArray, List.set_cons_zero, List.set_cons_succ])
          refine takx (i := 9) (D := 76) (v := .agg #[.int .i64 3, .int .i64 p2.a, .int .i64 p2.b, .int .i64 0, .int .i64 0, .int .i64 0, .int .i64 0, .int .i64 0, .int .i64 0, .int .i64 0, .int .i64 0]) rfl rfl (by kernel_rfl) (by kernel_rfl) (by kernel_rfl) (fun _ _ _ h => h) (Or.inl ⟨by rfl, fun W hSw => by (try dsimp only at hSw); go_simp⟩) (by assumption) ?_
          (try simp only [List.setIfInBounds_toArray, List.set_cons_zero, List.set_cons_succ])
          refine wpAnyH_ready (rs := [3, 16]) (by kernel_rfl) (by simp) ?_
          refine (AllReadyH.cons rfl (fun K hK => ?_) (AllReadyH.cons rfl (fun K hK => ?_) AllReadyH.nil))
          · go_simp
            refine (toRect4 s.a s.b s.c s.d _).mono ?_
            rintro e X41 ⟨rfl, bc⟩
            refine hK.out _ _ ⟨ck bc hHeld.1, ck bc hHeld.2.1, ck bc hHeld.2.2.1, ck bc hHeld.2.2.2.1, ck bc hHeld.2.2.2.2.1, ck bc hHeld.2.2.2.2.2.1, ck bc hHeld.2.2.2.2.2.2.1, ck bc hHeld.2.2.2.2.2.2.2.1, ck bc hHeld.2.2.2.2.2.2.2.2.1, ck bc hHeld.2.2.2.2.2.2.2.2.2.1, ck bc hHeld.2.2.2.2.2.2.2.2.2.2.1, ck bc hHeld.2.2.2.2.2.2.2.2.2.2.2.1, ck bc hHeld.2.2.2.2.2.2.2.2.2.2.2.2.1, ck bc hHeld.2.2.2.2.2.2.2.2.2.2.2.2.2.1, ck bc hHeld.2.2.2.2.2.2.2.2.2.2.2.2.2.2.1, ck bc hHeld.2.2.2.2.2.2.2.2.2.2.2.2.2.2.2.1, ck bc hHeld.2.2.2.2.2.2.2.2.2.2.2.2.2.2.2.2.1, ck bc hHeld.2.2.2.2.2.2.2.2.2.2.2.2.2.2.2.2.2.1, ck bc hHeld.2.2.2.2.2.2.2.2.2.2.2.2.2.2.2.2.2.2.1, ck bc hHeld.2.2.2.2.2.2.2.2.2.2.2.2.2.2.2.2.2.2.2.1, ck bc hHeld.2.2.2.2.2.2.2.2.2.2.2.2.2.2.2.2.2.2.2.2.1, ck bc hHeld.2.2.2.2.2.2.2.2.2.2.2.2.2.2.2.2.2.2.2.2.2.1, ck bc hHeld.2.2.2.2.2.2.2.2.2.2.2.2.2.2.2.2.2.2.2.2.2.2.1, ck bc hHeld.2.2.2.2.2.2.2.2.2.2.2.2.2.2.2.2.2.2.2.2.2.2.2.1, ck bc hHeld.2.2.2.2.2.2.2.2.2.2.2.2.2.2.2.2.2.2.2.2.2.2.2.2.1, ck bc hHeld.2.2.2.2.2.2.2.2.2.2.2.2.2.2.2.2.2.2.2.2.2.2.2.2.2.1, ck bc hHeld.2.2.2.2.2.2.2.2.2.2.2.2.2.2.2.2.2.2.2.2.2.2.2.2.2.2.1, ck bc hHeld.2.2.2.2.2.2.2.2.2.2.2.2.2.2.2.2.2.2.2.2.2.2.2.2.2.2.2.1, ck bc hHeld.2.2.2.2.2.2.2.2.2.2.2.2.2.2.2.2.2.2.2.2.2.2.2.2.2.2.2.2.1, ck bc hHeld.2.2.2.2.2.2.2.2.2.2.2.2.2.2.2.2.2.2.2.2.2.2.2.2.2.2.2.2.2.1, ck bc hHeld.2.2.2.2.2.2.2.2.2.2.2.2.2.2.2.2.2.2.2.2.2.2.2.2.2.2.2.2.2.2.1, ck bc hHeld.2.2.2.2.2.2.2.2.2.2.2.2.2.2.2.2.2.2.2.2.2.2.2.2.2.2.2.2.2.2.2.1, ck bc hHeld.2.2.2.2.2.2.2.2.2.2.2.2.2.2.2.2.2.2.2.2.2.2.2.2.2.2.2.2.2.2.2.2.1, ck bc hHeld.2.2.2.2.2.2.2.2.2.2.2.2.2.2.2.2.2.2.2.2.2.2.2.2.2.2.2.2.2.2.2.2.2⟩ (fun hHeld => ?_)
            clear hK K
            (try simp only [List.setIfInBounds_toArray, List.set_cons_zero, List.set_cons_succ])
            replace k_r := bk bc k_r
            replace k_s := bk bc k_s
            replace k_u := bk bc k_u
            replace k_q := bk bc k_q
            replace k_both := bk bc k_both
            replace k_all := bk bc k_all
            replace k_read := bk bc k_read
            replace k_place := bk bc k_place
            replace bw := bst bc bw
            (try replace r1 := (r1.below bc).more bc.size)
            (try replace r2 := (r2.below bc).more bc.size)
            clear bc
            refine takx (i := 4) (D := 71) (v := .agg #[.int .i64 4, .int .i64 0, .int .i64 0, .int .i64 0, .int .i64 0, .int .i64 0, .int .i64 0, .int .i64 s.a, .int .i64 s.b, .int .i64 s.c, .int .i64 s.d]) rfl rfl (by kernel_rfl) (by kernel_rfl) (by kernel_rfl) (fun _ _ _ h => h) (Or.inl ⟨by rfl, fun W hSw => by (try dsimp only at hSw); go_simp⟩) (by assumption) ?_
            (try simp only [List.setIfInBounds_toArray, List.set_cons_zero, List.set_cons_succ])
            refine wpAnyH_ready (rs := [6, 16]) (by kernel_rfl) (by simp) ?_
            refine (AllReadyH.cons rfl (fun K hK => ?_) (AllReadyH.cons rfl (fun K hK => ?_) AllReadyH.nil))
            · go_simp
              refine (toRect4 u.a u.b u.c u.d _).mono ?_
              rintro e X42 ⟨rfl, bc⟩
              refine hK.out _ _ ⟨ck bc hHeld.1, ck bc hHeld.2.1, ck bc hHeld.2.2.1, ck bc hHeld.2.2.2.1, ck bc hHeld.2.2.2.2.1, ck bc hHeld.2.2.2.2.2.1, ck bc hHeld.2.2.2.2.2.2.1, ck bc hHeld.2.2.2.2.2.2.2.1, ck bc hHeld.2.2.2.2.2.2.2.2.1, ck bc hHeld.2.2.2.2.2.2.2.2.2.1, ck bc hHeld.2.2.2.2.2.2.2.2.2.2.1, ck bc hHeld.2.2.2.2.2.2.2.2.2.2.2.1, ck bc hHeld.2.2.2.2.2.2.2.2.2.2.2.2.1, ck bc hHeld.2.2.2.2.2.2.2.2.2.2.2.2.2.1, ck bc hHeld.2.2.2.2.2.2.2.2.2.2.2.2.2.2.1, ck bc hHeld.2.2.2.2.2.2.2.2.2.2.2.2.2.2.2.1, ck bc hHeld.2.2.2.2.2.2.2.2.2.2.2.2.2.2.2.2.1, ck bc hHeld.2.2.2.2.2.2.2.2.2.2.2.2.2.2.2.2.2.1, ck bc hHeld.2.2.2.2.2.2.2.2.2.2.2.2.2.2.2.2.2.2.1, ck bc hHeld.2.2.2.2.2.2.2.2.2.2.2.2.2.2.2.2.2.2.2.1, ck bc hHeld.2.2.2.2.2.2.2.2.2.2.2.2.2.2.2.2.2.2.2.2.1, ck bc hHeld.2.2.2.2.2.2.2.2.2.2.2.2.2.2.2.2.2.2.2.2.2.1, ck bc hHeld.2.2.2.2.2.2.2.2.2.2.2.2.2.2.2.2.2.2.2.2.2.2.1, ck bc hHeld.2.2.2.2.2.2.2.2.2.2.2.2.2.2.2.2.2.2.2.2.2.2.2.1, ck bc hHeld.2.2.2.2.2.2.2.2.2.2.2.2.2.2.2.2.2.2.2.2.2.2.2.2.1, ck bc hHeld.2.2.2.2.2.2.2.2.2.2.2.2.2.2.2.2.2.2.2.2.2.2.2.2.2.1, ck bc hHeld.2.2.2.2.2.2.2.2.2.2.2.2.2.2.2.2.2.2.2.2.2.2.2.2.2.2.1, ck bc hHeld.2.2.2.2.2.2.2.2.2.2.2.2.2.2.2.2.2.2.2.2.2.2.2.2.2.2.2.1, ck bc hHeld.2.2.2.2.2.2.2.2.2.2.2.2.2.2.2.2.2.2.2.2.2.2.2.2.2.2.2.2.1, ck bc hHeld.2.2.2.2.2.2.2.2.2.2.2.2.2.2.2.2.2.2.2.2.2.2.2.2.2.2.2.2.2.1, ck bc hHeld.2.2.2.2.2.2.2.2.2.2.2.2.2.2.2.2.2.2.2.2.2.2.2.2.2.2.2.2.2.2.1, ck bc hHeld.2.2.2.2.2.2.2.2.2.2.2.2.2.2.2.2.2.2.2.2.2.2.2.2.2.2.2.2.2.2.2.1, ck bc hHeld.2.2.2.2.2.2.2.2.2.2.2.2.2.2.2.2.2.2.2.2.2.2.2.2.2.2.2.2.2.2.2.2.1, ck bc hHeld.2.2.2.2.2.2.2.2.2.2.2.2.2.2.2.2.2.2.2.2.2.2.2.2.2.2.2.2.2.2.2.2.2⟩ (fun hHeld => ?_)
              clear hK K
              (try simp only [List.setIfInBounds_toArray, List.set_cons_zero, List.set_cons_succ])
              replace k_r := bk bc k_r
              replace k_s := bk bc k_s
              replace k_u := bk bc k_u
              replace k_q := bk bc k_q
              replace k_both := bk bc k_both
              replace k_all := bk bc k_all
              replace k_read := bk bc k_read
              replace k_place := bk bc k_place
              replace bw := bst bc bw
              (try replace r1 := (r1.below bc).more bc.size)
              (try replace r2 := (r2.below bc).more bc.size)
              clear bc
              refine takx (i := 7) (D := 74) (v := .agg #[.int .i64 4, .int .i64 0, .int .i64 0, .int .i64 0, .int .i64 0, .int .i64 0, .int .i64 0, .int .i64 u.a, .int .i64 u.b, .int .i64 u.c, .int .i64 u.d]) rfl rfl (by kernel_rfl) (by kernel_rfl) (by kernel_rfl) (fun _ _ _ h => h) (Or.inl ⟨by rfl, fun W hSw => by (try dsimp only at hSw); go_simp⟩) (by assumption) ?_
              (try simp only [List.setIfInBounds_toArray, List.set_cons_zero, List.set_cons_succ])
              refine wpAnyH_ready (rs := [10, 16]) (by kernel_rfl) (by simp) ?_
              refine (AllReadyH.cons rfl (fun K hK => ?_) (AllReadyH.cons rfl (fun K hK => ?_) AllReadyH.nil))
              · go_simp
                refine hK.out _ _ ⟨cka hHeld.1, cka hHeld.2.1, cka hHeld.2.2.1, cka hHeld.2.2.2.1, cka hHeld.2.2.2.2.1, cka hHeld.2.2.2.2.2.1, cka hHeld.2.2.2.2.2.2.1, cka hHeld.2.2.2.2.2.2.2.1, cka hHeld.2.2.2.2.2.2.2.2.1, cka hHeld.2.2.2.2.2.2.2.2.2.1, cka hHeld.2.2.2.2.2.2.2.2.2.2.1, cka hHeld.2.2.2.2.2.2.2.2.2.2.2.1, cka hHeld.2.2.2.2.2.2.2.2.2.2.2.2.1, cka hHeld.2.2.2.2.2.2.2.2.2.2.2.2.2.1, cka hHeld.2.2.2.2.2.2.2.2.2.2.2.2.2.2.1, cka hHeld.2.2.2.2.2.2.2.2.2.2.2.2.2.2.2.1, cka hHeld.2.2.2.2.2.2.2.2.2.2.2.2.2.2.2.2.1, cka hHeld.2.2.2.2.2.2.2.2.2.2.2.2.2.2.2.2.2.1, cka hHeld.2.2.2.2.2.2.2.2.2.2.2.2.2.2.2.2.2.2.1, cka hHeld.2.2.2.2.2.2.2.2.2.2.2.2.2.2.2.2.2.2.2.1, cka hHeld.2.2.2.2.2.2.2.2.2.2.2.2.2.2.2.2.2.2.2.2.1, cka hHeld.2.2.2.2.2.2.2.2.2.2.2.2.2.2.2.2.2.2.2.2.2.1, cka hHeld.2.2.2.2.2.2.2.2.2.2.2.2.2.2.2.2.2.2.2.2.2.2.1, cka hHeld.2.2.2.2.2.2.2.2.2.2.2.2.2.2.2.2.2.2.2.2.2.2.2.1, cka hHeld.2.2.2.2.2.2.2.2.2.2.2.2.2.2.2.2.2.2.2.2.2.2.2.2.1, cka hHeld.2.2.2.2.2.2.2.2.2.2.2.2.2.2.2.2.2.2.2.2.2.2.2.2.2.1, cka hHeld.2.2.2.2.2.2.2.2.2.2.2.2.2.2.2.2.2.2.2.2.2.2.2.2.2.2.1, cka hHeld.2.2.2.2.2.2.2.2.2.2.2.2.2.2.2.2.2.2.2.2.2.2.2.2.2.2.2.1, cka hHeld.2.2.2.2.2.2.2.2.2.2.2.2.2.2.2.2.2.2.2.2.2.2.2.2.2.2.2.2.1, cka hHeld.2.2.2.2.2.2.2.2.2.2.2.2.2.2.2.2.2.2.2.2.2.2.2.2.2.2.2.2.2.1, cka hHeld.2.2.2.2.2.2.2.2.2.2.2.2.2.2.2.2.2.2.2.2.2.2.2.2.2.2.2.2.2.2.1, cka hHeld.2.2.2.2.2.2.2.2.2.2.2.2.2.2.2.2.2.2.2.2.2.2.2.2.2.2.2.2.2.2.2.1, cka hHeld.2.2.2.2.2.2.2.2.2.2.2.2.2.2.2.2.2.2.2.2.2.2.2.2.2.2.2.2.2.2.2.2.1, cka hHeld.2.2.2.2.2.2.2.2.2.2.2.2.2.2.2.2.2.2.2.2.2.2.2.2.2.2.2.2.2.2.2.2.2⟩ (fun hHeld => ?_)
                clear hK K
                (try simp only [List.setIfInBounds_toArray, List.set_cons_zero, List.set_cons_succ])
                obtain ⟨X43, g43, eY, eg⟩ : ∃ Y g, Y = X42.alloc (.cells #[.int .i64 4, .int .i64 0, .int .i64 0, .int .i64 0, .int .i64 0, .int .i64 0, .int .i64 0, .int .i64 s.a, .int .i64 s.b, .int .i64 s.c, .int .i64 s.d, .int .i64 4, .int .i64 0, .int .i64 0, .int .i64 0, .int .i64 0, .int .i64 0, .int .i64 0, .int .i64 u.a, .int .i64 u.b, .int .i64 u.c, .int .i64 u.d, .int .i64 2, .int .i64 x, .int .i64 y, .int .i64 0, .int .i64 0, .int .i64 0, .int .i64 0, .int .i64 0, .int .i64 0, .int .i64 0, .int .i64 0, .int .i64 3, .int .i64 p2.a, .int .i64 p2.b, .int .i64 0, .int .i64 0, .int .i64 0, .int .i64 0, .int .i64 0, .int .i64 0, .int .i64 0, .int .i64 0] 62) ∧ g = X42.heap.size := ⟨_, _, rfl, rfl⟩
                rw [← eY, ← eg]
                rw [← eY] at hHeld
                have bc : Below X42.heap.size X42 X43 := by rw [eY]; exact (Below.refl _ _).alloc (Nat.le_refl _) _
                have k_n77 : X43.heap[g43]? = some (.cells #[.int .i64 4, .int .i64 0, .int .i64 0, .int .i64 0, .int .i64 0, .int .i64 0, .int .i64 0, .int .i64 s.a, .int .i64 s.b, .int .i64 s.c, .int .i64 s.d, .int .i64 4, .int .i64 0, .int .i64 0, .int .i64 0, .int .i64 0, .int .i64 0, .int .i64 0, .int .i64 u.a, .int .i64 u.b, .int .i64 u.c, .int .i64 u.d, .int .i64 2, .int .i64 x, .int .i64 y, .int .i64 0, .int .i64 0, .int .i64 0, .int .i64 0, .int .i64 0, .int .i64 0, .int .i64 0, .int .i64 0, .int .i64 3, .int .i64 p2.a, .int .i64 p2.b, .int .i64 0, .int .i64 0, .int .i64 0, .int .i64 0, .int .i64 0, .int .i64 0, .int .i64 0, .int .i64 0] 62 (0, 0)) := by rw [eY, eg]; exact heap_alloc_new X42 _
                replace k_r := bk bc k_r
                replace k_s := bk bc k_s
                replace k_u := bk bc k_u
                replace k_q := bk bc k_q
                replace k_both := bk bc k_both
                replace k_all := bk bc k_all
                replace k_read := bk bc k_read
                replace k_place := bk bc k_place
                replace bw := bst bc bw
                (try replace r1 := (r1.below bc).more bc.size)
                (try replace r2 := (r2.below bc).more bc.size)
                clear bc eY eg
                refine wpAnyH_ready (rs := [11, 16]) (by kernel_rfl) (by simp) ?_
                refine (AllReadyH.cons rfl (fun K hK => ?_) (AllReadyH.cons rfl (fun K hK => ?_) AllReadyH.nil))
                · go_simp
                  refine ((grayRun_any a b c d N h3 h4 h5 h6 HN.out n cp Z zs 4 4 _ [⟨4, 0, 0, ⟨0, 0, 0, 0⟩, s⟩, ⟨4, 0, 0, ⟨0, 0, 0, 0⟩, u⟩, ⟨2, x, y, ⟨0, 0, 0, 0⟩, ⟨0, 0, 0, 0⟩⟩, ⟨3, p2.a, p2.b, ⟨0, 0, 0, 0⟩, ⟨0, 0, 0, 0⟩⟩] _ ((HR.out.below bw).more bw.size) (RdSteps.of_block (ss := [⟨4, 0, 0, ⟨0, 0, 0, 0⟩, s⟩, ⟨4, 0, 0, ⟨0, 0, 0, 0⟩, u⟩, ⟨2, x, y, ⟨0, 0, 0, 0⟩, ⟨0, 0, 0, 0⟩⟩, ⟨3, p2.a, p2.b, ⟨0, 0, 0, 0⟩, ⟨0, 0, 0, 0⟩⟩]) (m := 4) k_n77 rfl rfl (by decide) OK1.out)).mono (fun _ _ h => h.offs (k := 1) (m := 1) (cs := [rdAt (byt N zs) a b c d x y]) (os := [0]) E1.out.1 rfl E1.out.2.1 E1.out.2.2 rfl)).mono ?_
                  rintro e X44 ⟨A1, c1, A2, c2, A3, c3, rfl, r1, r2, lo1, lo2, bc⟩
                  refine hK.out _ _ ⟨ck bc hHeld.1, ck bc hHeld.2.1, ck bc hHeld.2.2.1, ck bc hHeld.2.2.2.1, ck bc hHeld.2.2.2.2.1, ck bc hHeld.2.2.2.2.2.1, ck bc hHeld.2.2.2.2.2.2.1, ck bc hHeld.2.2.2.2.2.2.2.1, ck bc hHeld.2.2.2.2.2.2.2.2.1, ck bc hHeld.2.2.2.2.2.2.2.2.2.1, ck bc hHeld.2.2.2.2.2.2.2.2.2.2.1, ck bc hHeld.2.2.2.2.2.2.2.2.2.2.2.1, ck bc hHeld.2.2.2.2.2.2.2.2.2.2.2.2.1, ck bc hHeld.2.2.2.2.2.2.2.2.2.2.2.2.2.1, ck bc hHeld.2.2.2.2.2.2.2.2.2.2.2.2.2.2.1, ck bc hHeld.2.2.2.2.2.2.2.2.2.2.2.2.2.2.2.1, ck bc hHeld.2.2.2.2.2.2.2.2.2.2.2.2.2.2.2.2.1, ck bc hHeld.2.2.2.2.2.2.2.2.2.2.2.2.2.2.2.2.2.1, ck bc hHeld.2.2.2.2.2.2.2.2.2.2.2.2.2.2.2.2.2.2.1, ck bc hHeld.2.2.2.2.2.2.2.2.2.2.2.2.2.2.2.2.2.2.2.1, ck bc hHeld.2.2.2.2.2.2.2.2.2.2.2.2.2.2.2.2.2.2.2.2.1, ck bc hHeld.2.2.2.2.2.2.2.2.2.2.2.2.2.2.2.2.2.2.2.2.2.1, ck bc hHeld.2.2.2.2.2.2.2.2.2.2.2.2.2.2.2.2.2.2.2.2.2.2.1, ck bc hHeld.2.2.2.2.2.2.2.2.2.2.2.2.2.2.2.2.2.2.2.2.2.2.2.1, ck bc hHeld.2.2.2.2.2.2.2.2.2.2.2.2.2.2.2.2.2.2.2.2.2.2.2.2.1, ck bc hHeld.2.2.2.2.2.2.2.2.2.2.2.2.2.2.2.2.2.2.2.2.2.2.2.2.2.1, ck bc hHeld.2.2.2.2.2.2.2.2.2.2.2.2.2.2.2.2.2.2.2.2.2.2.2.2.2.2.1, ck bc hHeld.2.2.2.2.2.2.2.2.2.2.2.2.2.2.2.2.2.2.2.2.2.2.2.2.2.2.2.1, ck bc hHeld.2.2.2.2.2.2.2.2.2.2.2.2.2.2.2.2.2.2.2.2.2.2.2.2.2.2.2.2.1, ck bc hHeld.2.2.2.2.2.2.2.2.2.2.2.2.2.2.2.2.2.2.2.2.2.2.2.2.2.2.2.2.2.1, ck bc hHeld.2.2.2.2.2.2.2.2.2.2.2.2.2.2.2.2.2.2.2.2.2.2.2.2.2.2.2.2.2.2.1, ck bc hHeld.2.2.2.2.2.2.2.2.2.2.2.2.2.2.2.2.2.2.2.2.2.2.2.2.2.2.2.2.2.2.2.1, ck bc hHeld.2.2.2.2.2.2.2.2.2.2.2.2.2.2.2.2.2.2.2.2.2.2.2.2.2.2.2.2.2.2.2.2.1, ck bc hHeld.2.2.2.2.2.2.2.2.2.2.2.2.2.2.2.2.2.2.2.2.2.2.2.2.2.2.2.2.2.2.2.2.2⟩ (fun hHeld => ?_)
                  clear hK K
                  (try simp only [List.setIfInBounds_toArray, List.set_cons_zero, List.set_cons_succ])
                  replace k_r := bk bc k_r
                  replace k_s := bk bc k_s
                  replace k_u := bk bc k_u
                  replace k_q := bk bc k_q
                  replace k_both := bk bc k_both
                  replace k_all := bk bc k_all
                  replace k_read := bk bc k_read
                  replace k_place := bk bc k_place
                  replace k_n77 := bk bc k_n77
                  replace bw := bst bc bw
                  (try replace r1 := (r1.below bc).more bc.size)
                  (try replace r2 := (r2.below bc).more bc.size)
                  clear bc
                  refine takx (i := 12) (D := 66) (v := .tuple #[.slice A1 1 c1, .slice A2 1 c2, .agg #[.int .i64 a, .int .i64 b, .int .i64 c, .int .i64 d, .int .i64 (c - a), .slice A3 N c3]]) rfl rfl (by kernel_rfl) (by kernel_rfl) (by kernel_rfl) (fun _ _ _ h => h) (Or.inl ⟨by rfl, fun W hSw => by (try dsimp only at hSw); go_simp⟩) (by assumption) ?_
                  (try simp only [List.setIfInBounds_toArray, List.set_cons_zero, List.set_cons_succ])
                  refine takx (i := 13) (D := 79) (v := .slice A1 1 c1) rfl rfl (by kernel_rfl) (by kernel_rfl) (by kernel_rfl) (fun _ _ _ h => h) (Or.inl ⟨by rfl, fun W hSw => by (try dsimp only at hSw); go_simp⟩) (by assumption) ?_
                  (try simp only [List.setIfInBounds_toArray, List.set_cons_zero, List.set_cons_succ])
                  refine takx (i := 14) (D := 80) (v := .slice A2 1 c2) rfl rfl (by kernel_rfl) (by kernel_rfl) (by kernel_rfl) (fun _ _ _ h => h) (Or.inl ⟨by rfl, fun W hSw => by (try dsimp only at hSw); go_simp⟩) (by assumption) ?_
                  (try simp only [List.setIfInBounds_toArray, List.set_cons_zero, List.set_cons_succ])
                  refine takx (i := 15) (D := 81) (v := .agg #[.int .i64 a, .int .i64 b, .int .i64 c, .int .i64 d, .int .i64 (c - a), .slice A3 N c3]) rfl rfl (by kernel_rfl) (by kernel_rfl) (by kernel_rfl) (fun _ _ _ h => h) (Or.inl ⟨by rfl, fun W hSw => by (try dsimp only at hSw); go_simp⟩) (by assumption) ?_
                  (try simp only [List.setIfInBounds_toArray, List.set_cons_zero, List.set_cons_succ])
                  refine wpAnyH_ready (rs := [16]) (by kernel_rfl) (by simp) ?_
                  refine (AllReadyH.cons rfl (fun K hK => ?_) AllReadyH.nil)
                  go_simp
                  refine hK.out _ _ ⟨cka hHeld.1, cka hHeld.2.1, cka hHeld.2.2.1, cka hHeld.2.2.2.1, cka hHeld.2.2.2.2.1, cka hHeld.2.2.2.2.2.1, cka hHeld.2.2.2.2.2.2.1, cka hHeld.2.2.2.2.2.2.2.1, cka hHeld.2.2.2.2.2.2.2.2.1, cka hHeld.2.2.2.2.2.2.2.2.2.1, cka hHeld.2.2.2.2.2.2.2.2.2.2.1, cka hHeld.2.2.2.2.2.2.2.2.2.2.2.1, cka hHeld.2.2.2.2.2.2.2.2.2.2.2.2.1, cka hHeld.2.2.2.2.2.2.2.2.2.2.2.2.2.1, cka hHeld.2.2.2.2.2.2.2.2.2.2.2.2.2.2.1, cka hHeld.2.2.2.2.2.2.2.2.2.2.2.2.2.2.2.1, cka hHeld.2.2.2.2.2.2.2.2.2.2.2.2.2.2.2.2.1, cka hHeld.2.2.2.2.2.2.2.2.2.2.2.2.2.2.2.2.2.1, cka hHeld.2.2.2.2.2.2.2.2.2.2.2.2.2.2.2.2.2.2.1, cka hHeld.2.2.2.2.2.2.2.2.2.2.2.2.2.2.2.2.2.2.2.1, cka hHeld.2.2.2.2.2.2.2.2.2.2.2.2.2.2.2.2.2.2.2.2.1, cka hHeld.2.2.2.2.2.2.2.2.2.2.2.2.2.2.2.2.2.2.2.2.2.1, cka hHeld.2.2.2.2.2.2.2.2.2.2.2.2.2.2.2.2.2.2.2.2.2.2.1, cka hHeld.2.2.2.2.2.2.2.2.2.2.2.2.2.2.2.2.2.2.2.2.2.2.2.1, cka hHeld.2.2.2.2.2.2.2.2.2.2.2.2.2.2.2.2.2.2.2.2.2.2.2.2.1, cka hHeld.2.2.2.2.2.2.2.2.2.2.2.2.2.2.2.2.2.2.2.2.2.2.2.2.2.1, cka hHeld.2.2.2.2.2.2.2.2.2.2.2.2.2.2.2.2.2.2.2.2.2.2.2.2.2.2.1, cka hHeld.2.2.2.2.2.2.2.2.2.2.2.2.2.2.2.2.2.2.2.2.2.2.2.2.2.2.2.1, cka hHeld.2.2.2.2.2.2.2.2.2.2.2.2.2.2.2.2.2.2.2.2.2.2.2.2.2.2.2.2.1, cka hHeld.2.2.2.2.2.2.2.2.2.2.2.2.2.2.2.2.2.2.2.2.2.2.2.2.2.2.2.2.2.1, cka hHeld.2.2.2.2.2.2.2.2.2.2.2.2.2.2.2.2.2.2.2.2.2.2.2.2.2.2.2.2.2.2.1, cka hHeld.2.2.2.2.2.2.2.2.2.2.2.2.2.2.2.2.2.2.2.2.2.2.2.2.2.2.2.2.2.2.2.1, cka hHeld.2.2.2.2.2.2.2.2.2.2.2.2.2.2.2.2.2.2.2.2.2.2.2.2.2.2.2.2.2.2.2.2.1, cka hHeld.2.2.2.2.2.2.2.2.2.2.2.2.2.2.2.2.2.2.2.2.2.2.2.2.2.2.2.2.2.2.2.2.2⟩ (fun hHeld => ?_)
                  clear hK K
                  (try simp only [List.setIfInBounds_toArray, List.set_cons_zero, List.set_cons_succ])
                  obtain ⟨X45, g45, eY, eg⟩ : ∃ Y g, Y = X44.alloc (.cells #[.int .i64 0, .int .i64 0, .int .i64 0, .int .i64 0, .int .i64 0, .slice none 0 0] 29) ∧ g = X44.heap.size := ⟨_, _, rfl, rfl⟩
                  rw [← eY, ← eg]
                  rw [← eY] at hHeld
                  have bc : Below X44.heap.size X44 X45 := by rw [eY]; exact (Below.refl _ _).alloc (Nat.le_refl _) _
                  have k_n22 : X45.heap[g45]? = some (.cells #[.int .i64 0, .int .i64 0, .int .i64 0, .int .i64 0, .int .i64 0, .slice none 0 0] 29 (0, 0)) := by rw [eY, eg]; exact heap_alloc_new X44 _
                  have lo_n22 : w.heap.size ≤ g45 := by rw [eg]; exact bw.size
                  have ne_r_n22 : ¬ w.heap.size = g45 := ne_new k_r eg
                  have ne_s_n22 : ¬ w.heap.size + 1 = g45 := ne_new k_s eg
                  have ne_u_n22 : ¬ w.heap.size + 2 = g45 := ne_new k_u eg
                  have ne_q_n22 : ¬ g_q = g45 := ne_new k_q eg
                  have ne_both_n22 : ¬ g_both = g45 := ne_new k_both eg
                  have ne_all_n22 : ¬ g_all = g45 := ne_new k_all eg
                  have ne_read_n22 : ¬ g_read = g45 := ne_new k_read eg
                  have ne_place_n22 : ¬ g_place = g45 := ne_new k_place eg
                  have ne_n77_n22 : ¬ g43 = g45 := ne_new k_n77 eg
                  have ne_n22_n77 : ¬ g45 = g43 := fun e => ne_new k_n77 eg e.symm
                  (try have na_r1 := Rd.ne_new r1 eg)
                  (try have na_r2 := Rd.ne_new r2 eg)
                  replace k_r := bk bc k_r
                  replace k_s := bk bc k_s
                  replace k_u := bk bc k_u
                  replace k_q := bk bc k_q
                  replace k_both := bk bc k_both
                  replace k_all := bk bc k_all
                  replace k_read := bk bc k_read
                  replace k_place := bk bc k_place
                  replace k_n77 := bk bc k_n77
                  replace bw := bst bc bw
                  (try replace r1 := (r1.below bc).more bc.size)
                  (try replace r2 := (r2.below bc).more bc.size)
                  clear bc eY eg
                  refine takx (i := 17) (D := 20) (v := .slice A1 1 c1) rfl rfl (by kernel_rfl) (by kernel_rfl) (by kernel_rfl) (fun _ _ _ h => h) (Or.inl ⟨by rfl, fun W hSw => by (try dsimp only at hSw); go_simp⟩) (by assumption) ?_
                  (try simp only [List.setIfInBounds_toArray, List.set_cons_zero, List.set_cons_succ])
                  refine takx (i := 18) (D := 21) (v := .slice A2 1 c2) rfl rfl (by kernel_rfl) (by kernel_rfl) (by kernel_rfl) (fun _ _ _ h => h) (Or.inl ⟨by rfl, fun W hSw => by (try dsimp only at hSw); go_simp⟩) (by assumption) ?_
                  (try simp only [List.setIfInBounds_toArray, List.set_cons_zero, List.set_cons_succ])
                  refine wpAnyH_ready (rs := [19]) (by kernel_rfl) (by simp) ?_
                  refine (AllReadyH.cons rfl (fun K hK => ?_) AllReadyH.nil)
                  have qq := q6c k_n22
                  go_simp
                  clear qq
                  refine hK.out _ _ ⟨(cks ne_q_n22 (cks ne_q_n22 (cks ne_q_n22 (cks ne_q_n22 (cks ne_q_n22 (cks ne_q_n22 hHeld.1)))))), (cks ne_q_n22 (cks ne_q_n22 (cks ne_q_n22 (cks ne_q_n22 (cks ne_q_n22 (cks ne_q_n22 hHeld.2.1)))))), (cks ne_q_n22 (cks ne_q_n22 (cks ne_q_n22 (cks ne_q_n22 (cks ne_q_n22 (cks ne_q_n22 hHeld.2.2.1)))))), (cks ne_q_n22 (cks ne_q_n22 (cks ne_q_n22 (cks ne_q_n22 (cks ne_q_n22 (cks ne_q_n22 hHeld.2.2.2.1)))))), (cks ne_s_n22 (cks ne_s_n22 (cks ne_s_n22 (cks ne_s_n22 (cks ne_s_n22 (cks ne_s_n22 hHeld.2.2.2.2.1)))))), (cks ne_s_n22 (cks ne_s_n22 (cks ne_s_n22 (cks ne_s_n22 (cks ne_s_n22 (cks ne_s_n22 hHeld.2.2.2.2.2.1)))))), (cks ne_s_n22 (cks ne_s_n22 (cks ne_s_n22 (cks ne_s_n22 (cks ne_s_n22 (cks ne_s_n22 hHeld.2.2.2.2.2.2.1)))))), (cks ne_s_n22 (cks ne_s_n22 (cks ne_s_n22 (cks ne_s_n22 (cks ne_s_n22 (cks ne_s_n22 hHeld.2.2.2.2.2.2.2.1)))))), (cks ne_u_n22 (cks ne_u_n22 (cks ne_u_n22 (cks ne_u_n22 (cks ne_u_n22 (cks ne_u_n22 hHeld.2.2.2.2.2.2.2.2.1)))))), (cks ne_u_n22 (cks ne_u_n22 (cks ne_u_n22 (cks ne_u_n22 (cks ne_u_n22 (cks ne_u_n22 hHeld.2.2.2.2.2.2.2.2.2.1)))))), (cks ne_u_n22 (cks ne_u_n22 (cks ne_u_n22 (cks ne_u_n22 (cks ne_u_n22 (cks ne_u_n22 hHeld.2.2.2.2.2.2.2.2.2.2.1)))))), (cks ne_u_n22 (cks ne_u_n22 (cks ne_u_n22 (cks ne_u_n22 (cks ne_u_n22 (cks ne_u_n22 hHeld.2.2.2.2.2.2.2.2.2.2.2.1)))))), (cks ne_read_n22 (cks ne_read_n22 (cks ne_read_n22 (cks ne_read_n22 (cks ne_read_n22 (cks ne_read_n22 hHeld.2.2.2.2.2.2.2.2.2.2.2.2.1)))))), (cks ne_read_n22 (cks ne_read_n22 (cks ne_read_n22 (cks ne_read_n22 (cks ne_read_n22 (cks ne_read_n22 hHeld.2.2.2.2.2.2.2.2.2.2.2.2.2.1)))))), (cks ne_read_n22 (cks ne_read_n22 (cks ne_read_n22 (cks ne_read_n22 (cks ne_read_n22 (cks ne_read_n22 hHeld.2.2.2.2.2.2.2.2.2.2.2.2.2.2.1)))))), (cks ne_read_n22 (cks ne_read_n22 (cks ne_read_n22 (cks ne_read_n22 (cks ne_read_n22 (cks ne_read_n22 hHeld.2.2.2.2.2.2.2.2.2.2.2.2.2.2.2.1)))))), (cks ne_read_n22 (cks ne_read_n22 (cks ne_read_n22 (cks ne_read_n22 (cks ne_read_n22 (cks ne_read_n22 hHeld.2.2.2.2.2.2.2.2.2.2.2.2.2.2.2.2.1)))))), (cks ne_read_n22 (cks ne_read_n22 (cks ne_read_n22 (cks ne_read_n22 (cks ne_read_n22 (cks ne_read_n22 hHeld.2.2.2.2.2.2.2.2.2.2.2.2.2.2.2.2.2.1)))))), (cks ne_read_n22 (cks ne_read_n22 (cks ne_read_n22 (cks ne_read_n22 (cks ne_read_n22 (cks ne_read_n22 hHeld.2.2.2.2.2.2.2.2.2.2.2.2.2.2.2.2.2.2.1)))))), (cks ne_read_n22 (cks ne_read_n22 (cks ne_read_n22 (cks ne_read_n22 (cks ne_read_n22 (cks ne_read_n22 hHeld.2.2.2.2.2.2.2.2.2.2.2.2.2.2.2.2.2.2.2.1)))))), (cks ne_read_n22 (cks ne_read_n22 (cks ne_read_n22 (cks ne_read_n22 (cks ne_read_n22 (cks ne_read_n22 hHeld.2.2.2.2.2.2.2.2.2.2.2.2.2.2.2.2.2.2.2.2.1)))))), (cks ne_read_n22 (cks ne_read_n22 (cks ne_read_n22 (cks ne_read_n22 (cks ne_read_n22 (cks ne_read_n22 hHeld.2.2.2.2.2.2.2.2.2.2.2.2.2.2.2.2.2.2.2.2.2.1)))))), (cks ne_read_n22 (cks ne_read_n22 (cks ne_read_n22 (cks ne_read_n22 (cks ne_read_n22 (cks ne_read_n22 hHeld.2.2.2.2.2.2.2.2.2.2.2.2.2.2.2.2.2.2.2.2.2.2.1)))))), (cks ne_place_n22 (cks ne_place_n22 (cks ne_place_n22 (cks ne_place_n22 (cks ne_place_n22 (cks ne_place_n22 hHeld.2.2.2.2.2.2.2.2.2.2.2.2.2.2.2.2.2.2.2.2.2.2.2.1)))))), (cks ne_place_n22 (cks ne_place_n22 (cks ne_place_n22 (cks ne_place_n22 (cks ne_place_n22 (cks ne_place_n22 hHeld.2.2.2.2.2.2.2.2.2.2.2.2.2.2.2.2.2.2.2.2.2.2.2.2.1)))))), (cks ne_place_n22 (cks ne_place_n22 (cks ne_place_n22 (cks ne_place_n22 (cks ne_place_n22 (cks ne_place_n22 hHeld.2.2.2.2.2.2.2.2.2.2.2.2.2.2.2.2.2.2.2.2.2.2.2.2.2.1)))))), (cks ne_place_n22 (cks ne_place_n22 (cks ne_place_n22 (cks ne_place_n22 (cks ne_place_n22 (cks ne_place_n22 hHeld.2.2.2.2.2.2.2.2.2.2.2.2.2.2.2.2.2.2.2.2.2.2.2.2.2.2.1)))))), (cks ne_place_n22 (cks ne_place_n22 (cks ne_place_n22 (cks ne_place_n22 (cks ne_place_n22 (cks ne_place_n22 hHeld.2.2.2.2.2.2.2.2.2.2.2.2.2.2.2.2.2.2.2.2.2.2.2.2.2.2.2.1)))))), (cks ne_place_n22 (cks ne_place_n22 (cks ne_place_n22 (cks ne_place_n22 (cks ne_place_n22 (cks ne_place_n22 hHeld.2.2.2.2.2.2.2.2.2.2.2.2.2.2.2.2.2.2.2.2.2.2.2.2.2.2.2.2.1)))))), (cks ne_place_n22 (cks ne_place_n22 (cks ne_place_n22 (cks ne_place_n22 (cks ne_place_n22 (cks ne_place_n22 hHeld.2.2.2.2.2.2.2.2.2.2.2.2.2.2.2.2.2.2.2.2.2.2.2.2.2.2.2.2.2.1)))))), (cks ne_place_n22 (cks ne_place_n22 (cks ne_place_n22 (cks ne_place_n22 (cks ne_place_n22 (cks ne_place_n22 hHeld.2.2.2.2.2.2.2.2.2.2.2.2.2.2.2.2.2.2.2.2.2.2.2.2.2.2.2.2.2.2.1)))))), (cks ne_place_n22 (cks ne_place_n22 (cks ne_place_n22 (cks ne_place_n22 (cks ne_place_n22 (cks ne_place_n22 hHeld.2.2.2.2.2.2.2.2.2.2.2.2.2.2.2.2.2.2.2.2.2.2.2.2.2.2.2.2.2.2.2.1)))))), (cks ne_place_n22 (cks ne_place_n22 (cks ne_place_n22 (cks ne_place_n22 (cks ne_place_n22 (cks ne_place_n22 hHeld.2.2.2.2.2.2.2.2.2.2.2.2.2.2.2.2.2.2.2.2.2.2.2.2.2.2.2.2.2.2.2.2.1)))))), (cks ne_place_n22 (cks ne_place_n22 (cks ne_place_n22 (cks ne_place_n22 (cks ne_place_n22 (cks ne_place_n22 hHeld.2.2.2.2.2.2.2.2.2.2.2.2.2.2.2.2.2.2.2.2.2.2.2.2.2.2.2.2.2.2.2.2.2))))))⟩ (fun hHeld => ?_)
                  clear hK K
                  (try simp only [List.setIfInBounds_toArray, List.set_cons_zero, List.set_cons_succ])
                  obtain ⟨X46, eY⟩ : ∃ Y, Y = ((((((X45.setCell ⟨g45, 0, none⟩ (.int .i64 a)).setCell ⟨g45, 1, none⟩ (.int .i64 b)).setCell ⟨g45, 2, none⟩ (.int .i64 c)).setCell ⟨g45, 3, none⟩ (.int .i64 d)).setCell ⟨g45, 4, none⟩ (.int .i64 (c - a))).setCell ⟨g45, 5, none⟩ (.slice A3 N c3)) := ⟨_, rfl⟩
                  rw [← eY] at hHeld ⊢
                  replace k_r : X46.heap[w.heap.size]? = some (.cells #[.int .i64 a, .int .i64 b, .int .i64 c, .int .i64 d] 23 (0, 0)) := by rw [eY]; exact (bks ne_r_n22 (bks ne_r_n22 (bks ne_r_n22 (bks ne_r_n22 (bks ne_r_n22 (bks ne_r_n22 k_r))))))
                  replace k_s : X46.heap[w.heap.size + 1]? = some (.cells #[.int .i64 s.a, .int .i64 s.b, .int .i64 s.c, .int .i64 s.d] 23 (0, 0)) := by rw [eY]; exact (bks ne_s_n22 (bks ne_s_n22 (bks ne_s_n22 (bks ne_s_n22 (bks ne_s_n22 (bks ne_s_n22 k_s))))))
                  replace k_u : X46.heap[w.heap.size + 2]? = some (.cells #[.int .i64 u.a, .int .i64 u.b, .int .i64 u.c, .int .i64 u.d] 23 (0, 0)) := by rw [eY]; exact (bks ne_u_n22 (bks ne_u_n22 (bks ne_u_n22 (bks ne_u_n22 (bks ne_u_n22 (bks ne_u_n22 k_u))))))
                  replace k_q : X46.heap[g_q]? = some (.cells #[.int .i64 a, .int .i64 b, .int .i64 c, .int .i64 d] 26 (0, 0)) := by rw [eY]; exact (bks ne_q_n22 (bks ne_q_n22 (bks ne_q_n22 (bks ne_q_n22 (bks ne_q_n22 (bks ne_q_n22 k_q))))))
                  replace k_both : X46.heap[g_both]? = some (.cells #[.int .i64 p1.a, .int .i64 p1.b, .int .i64 p1.c, .int .i64 p1.d] 26 (0, 0)) := by rw [eY]; exact (bks ne_both_n22 (bks ne_both_n22 (bks ne_both_n22 (bks ne_both_n22 (bks ne_both_n22 (bks ne_both_n22 k_both))))))
                  replace k_all : X46.heap[g_all]? = some (.cells #[.int .i64 p2.a, .int .i64 p2.b, .int .i64 p2.c, .int .i64 p2.d] 26 (0, 0)) := by rw [eY]; exact (bks ne_all_n22 (bks ne_all_n22 (bks ne_all_n22 (bks ne_all_n22 (bks ne_all_n22 (bks ne_all_n22 k_all))))))
                  replace k_read : X46.heap[g_read]? = some (.cells #[.int .i64 2, .int .i64 x, .int .i64 y, .int .i64 0, .int .i64 0, .int .i64 0, .int .i64 0, .int .i64 0, .int .i64 0, .int .i64 0, .int .i64 0] 62 (0, 0)) := by rw [eY]; exact (bks ne_read_n22 (bks ne_read_n22 (bks ne_read_n22 (bks ne_read_n22 (bks ne_read_n22 (bks ne_read_n22 k_read))))))
                  replace k_place : X46.heap[g_place]? = some (.cells #[.int .i64 3, .int .i64 p2.a, .int .i64 p2.b, .int .i64 0, .int .i64 0, .int .i64 0, .int .i64 0, .int .i64 0, .int .i64 0, .int .i64 0, .int .i64 0] 62 (0, 0)) := by rw [eY]; exact (bks ne_place_n22 (bks ne_place_n22 (bks ne_place_n22 (bks ne_place_n22 (bks ne_place_n22 (bks ne_place_n22 k_place))))))
                  replace k_n77 : X46.heap[g43]? = some (.cells #[.int .i64 4, .int .i64 0, .int .i64 0, .int .i64 0, .int .i64 0, .int .i64 0, .int .i64 0, .int .i64 s.a, .int .i64 s.b, .int .i64 s.c, .int .i64 s.d, .int .i64 4, .int .i64 0, .int .i64 0, .int .i64 0, .int .i64 0, .int .i64 0, .int .i64 0, .int .i64 u.a, .int .i64 u.b, .int .i64 u.c, .int .i64 u.d, .int .i64 2, .int .i64 x, .int .i64 y, .int .i64 0, .int .i64 0, .int .i64 0, .int .i64 0, .int .i64 0, .int .i64 0, .int .i64 0, .int .i64 0, .int .i64 3, .int .i64 p2.a, .int .i64 p2.b, .int .i64 0, .int .i64 0, .int .i64 0, .int .i64 0, .int .i64 0, .int .i64 0, .int .i64 0, .int .i64 0] 62 (0, 0)) := by rw [eY]; exact (bks ne_n77_n22 (bks ne_n77_n22 (bks ne_n77_n22 (bks ne_n77_n22 (bks ne_n77_n22 (bks ne_n77_n22 k_n77))))))
                  replace bw : Below w.heap.size w X46 := by rw [eY]; exact (bss lo_n22 (bss lo_n22 (bss lo_n22 (bss lo_n22 (bss lo_n22 (bss lo_n22 bw))))))
                  replace k_n22 : X46.heap[g45]? = some (.cells #[.int .i64 a, .int .i64 b, .int .i64 c, .int .i64 d, .int .i64 (c - a), .slice A3 N c3] 29 (0, 0)) := by rw [eY]; exact q6s k_n22
                  (try replace r1 := Rd.sized (W := X46) (Rd.sset na_r1 (Rd.sset na_r1 (Rd.sset na_r1 (Rd.sset na_r1 (Rd.sset na_r1 (Rd.sset na_r1 r1)))))) eY)
                  (try replace r2 := Rd.sized (W := X46) (Rd.sset na_r2 (Rd.sset na_r2 (Rd.sset na_r2 (Rd.sset na_r2 (Rd.sset na_r2 (Rd.sset na_r2 r2)))))) eY)
                  clear eY
                  refine wpAnyH_done (by kernel_rfl) ?_ _
                  go_wp2_with fail
                  go_meet
                  exact ⟨_, A1, c1, A2, c2, A3, c3, rfl, rfl, rfl, k_n22, k_r, k_s, k_u, k_q, k_both, k_all, k_read, k_place, r1, r2, bw⟩
                · go_simp
                  refine hK.out _ _ ⟨cka hHeld.1, cka hHeld.2.1, cka hHeld.2.2.1, cka hHeld.2.2.2.1, cka hHeld.2.2.2.2.1, cka hHeld.2.2.2.2.2.1, cka hHeld.2.2.2.2.2.2.1, cka hHeld.2.2.2.2.2.2.2.1, cka hHeld.2.2.2.2.2.2.2.2.1, cka hHeld.2.2.2.2.2.2.2.2.2.1, cka hHeld.2.2.2.2.2.2.2.2.2.2.1, cka hHeld.2.2.2.2.2.2.2.2.2.2.2.1, cka hHeld.2.2.2.2.2.2.2.2.2.2.2.2.1, cka hHeld.2.2.2.2.2.2.2.2.2.2.2.2.2.1, cka hHeld.2.2.2.2.2.2.2.2.2.2.2.2.2.2.1, cka hHeld.2.2.2.2.2.2.2.2.2.2.2.2.2.2.2.1, cka hHeld.2.2.2.2.2.2.2.2.2.2.2.2.2.2.2.2.1, cka hHeld.2.2.2.2.2.2.2.2.2.2.2.2.2.2.2.2.2.1, cka hHeld.2.2.2.2.2.2.2.2.2.2.2.2.2.2.2.2.2.2.1, cka hHeld.2.2.2.2.2.2.2.2.2.2.2.2.2.2.2.2.2.2.2.1, cka hHeld.2.2.2.2.2.2.2.2.2.2.2.2.2.2.2.2.2.2.2.2.1, cka hHeld.2.2.2.2.2.2.2.2.2.2.2.2.2.2.2.2.2.2.2.2.2.1, cka hHeld.2.2.2.2.2.2.2.2.2.2.2.2.2.2.2.2.2.2.2.2.2.2.1, cka hHeld.2.2.2.2.2.2.2.2.2.2.2.2.2.2.2.2.2.2.2.2.2.2.2.1, cka hHeld.2.2.2.2.2.2.2.2.2.2.2.2.2.2.2.2.2.2.2.2.2.2.2.2.1, cka hHeld.2.2.2.2.2.2.2.2.2.2.2.2.2.2.2.2.2.2.2.2.2.2.2.2.2.1, cka hHeld.2.2.2.2.2.2.2.2.2.2.2.2.2.2.2.2.2.2.2.2.2.2.2.2.2.2.1, cka hHeld.2.2.2.2.2.2.2.2.2.2.2.2.2.2.2.2.2.2.2.2.2.2.2.2.2.2.2.1, cka hHeld.2.2.2.2.2.2.2.2.2.2.2.2.2.2.2.2.2.2.2.2.2.2.2.2.2.2.2.2.1, cka hHeld.2.2.2.2.2.2.2.2.2.2.2.2.2.2.2.2.2.2.2.2.2.2.2.2.2.2.2.2.2.1, cka hHeld.2.2.2.2.2.2.2.2.2.2.2.2.2.2.2.2.2.2.2.2.2.2.2.2.2.2.2.2.2.2.1, cka hHeld.2.2.2.2.2.2.2.2.2.2.2.2.2.2.2.2.2.2.2.2.2.2.2.2.2.2.2.2.2.2.2.1, cka hHeld.2.2.2.2.2.2.2.2.2.2.2.2.2.2.2.2.2.2.2.2.2.2.2.2.2.2.2.2.2.2.2.2.1, cka hHeld.2.2.2.2.2.2.2.2.2.2.2.2.2.2.2.2.2.2.2.2.2.2.2.2.2.2.2.2.2.2.2.2.2⟩ (fun hHeld => ?_)
                  clear hK K
                  (try simp only [List.setIfInBounds_toArray, List.set_cons_zero, List.set_cons_succ])
                  obtain ⟨X47, g47, eY, eg⟩ : ∃ Y g, Y = X43.alloc (.cells #[.int .i64 0, .int .i64 0, .int .i64 0, .int .i64 0, .int .i64 0, .slice none 0 0] 29) ∧ g = X43.heap.size := ⟨_, _, rfl, rfl⟩
                  rw [← eY, ← eg]
                  rw [← eY] at hHeld
                  have bc : Below X43.heap.size X43 X47 := by rw [eY]; exact (Below.refl _ _).alloc (Nat.le_refl _) _
                  have k_n22 : X47.heap[g47]? = some (.cells #[.int .i64 0, .int .i64 0, .int .i64 0, .int .i64 0, .int .i64 0, .slice none 0 0] 29 (0, 0)) := by rw [eY, eg]; exact heap_alloc_new X43 _
                  have lo_n22 : w.heap.size ≤ g47 := by rw [eg]; exact bw.size
                  have ne_r_n22 : ¬ w.heap.size = g47 := ne_new k_r eg
                  have ne_s_n22 : ¬ w.heap.size + 1 = g47 := ne_new k_s eg
                  have ne_u_n22 : ¬ w.heap.size + 2 = g47 := ne_new k_u eg
                  have ne_q_n22 : ¬ g_q = g47 := ne_new k_q eg
                  have ne_both_n22 : ¬ g_both = g47 := ne_new k_both eg
                  have ne_all_n22 : ¬ g_all = g47 := ne_new k_all eg
                  have ne_read_n22 : ¬ g_read = g47 := ne_new k_read eg
                  have ne_place_n22 : ¬ g_place = g47 := ne_new k_place eg
                  have ne_n77_n22 : ¬ g43 = g47 := ne_new k_n77 eg
                  have ne_n22_n77 : ¬ g47 = g43 := fun e => ne_new k_n77 eg e.symm
                  (try have na_r1 := Rd.ne_new r1 eg)
                  (try have na_r2 := Rd.ne_new r2 eg)
                  replace k_r := bk bc k_r
                  replace k_s := bk bc k_s
                  replace k_u := bk bc k_u
                  replace k_q := bk bc k_q
                  replace k_both := bk bc k_both
                  replace k_all := bk bc k_all
                  replace k_read := bk bc k_read
                  replace k_place := bk bc k_place
                  replace k_n77 := bk bc k_n77
                  replace bw := bst bc bw
                  (try replace r1 := (r1.below bc).more bc.size)
                  (try replace r2 := (r2.below bc).more bc.size)
                  clear bc eY eg
                  refine wpAnyH_ready (rs := [11]) (by kernel_rfl) (by simp) ?_
                  refine (AllReadyH.cons rfl (fun K hK => ?_) AllReadyH.nil)
                  go_simp
                  refine ((grayRun_any a b c d N h3 h4 h5 h6 HN.out n cp Z zs 4 4 _ [⟨4, 0, 0, ⟨0, 0, 0, 0⟩, s⟩, ⟨4, 0, 0, ⟨0, 0, 0, 0⟩, u⟩, ⟨2, x, y, ⟨0, 0, 0, 0⟩, ⟨0, 0, 0, 0⟩⟩, ⟨3, p2.a, p2.b, ⟨0, 0, 0, 0⟩, ⟨0, 0, 0, 0⟩⟩] _ ((HR.out.below bw).more bw.size) (RdSteps.of_block (ss := [⟨4, 0, 0, ⟨0, 0, 0, 0⟩, s⟩, ⟨4, 0, 0, ⟨0, 0, 0, 0⟩, u⟩, ⟨2, x, y, ⟨0, 0, 0, 0⟩, ⟨0, 0, 0, 0⟩⟩, ⟨3, p2.a, p2.b, ⟨0, 0, 0, 0⟩, ⟨0, 0, 0, 0⟩⟩]) (m := 4) k_n77 rfl rfl (by decide) OK1.out)).mono (fun _ _ h => h.offs (k := 1) (m := 1) (cs := [rdAt (byt N zs) a b c d x y]) (os := [0]) E1.out.1 rfl E1.out.2.1 E1.out.2.2 rfl)).mono ?_
                  rintro e X48 ⟨A1, c1, A2, c2, A3, c3, rfl, r1, r2, lo1, lo2, bc⟩
                  refine hK.out _ _ ⟨ck bc hHeld.1, ck bc hHeld.2.1, ck bc hHeld.2.2.1, ck bc hHeld.2.2.2.1, ck bc hHeld.2.2.2.2.1, ck bc hHeld.2.2.2.2.2.1, ck bc hHeld.2.2.2.2.2.2.1, ck bc hHeld.2.2.2.2.2.2.2.1, ck bc hHeld.2.2.2.2.2.2.2.2.1, ck bc hHeld.2.2.2.2.2.2.2.2.2.1, ck bc hHeld.2.2.2.2.2.2.2.2.2.2.1, ck bc hHeld.2.2.2.2.2.2.2.2.2.2.2.1, ck bc hHeld.2.2.2.2.2.2.2.2.2.2.2.2.1, ck bc hHeld.2.2.2.2.2.2.2.2.2.2.2.2.2.1, ck bc hHeld.2.2.2.2.2.2.2.2.2.2.2.2.2.2.1, ck bc hHeld.2.2.2.2.2.2.2.2.2.2.2.2.2.2.2.1, ck bc hHeld.2.2.2.2.2.2.2.2.2.2.2.2.2.2.2.2.1, ck bc hHeld.2.2.2.2.2.2.2.2.2.2.2.2.2.2.2.2.2.1, ck bc hHeld.2.2.2.2.2.2.2.2.2.2.2.2.2.2.2.2.2.2.1, ck bc hHeld.2.2.2.2.2.2.2.2.2.2.2.2.2.2.2.2.2.2.2.1, ck bc hHeld.2.2.2.2.2.2.2.2.2.2.2.2.2.2.2.2.2.2.2.2.1, ck bc hHeld.2.2.2.2.2.2.2.2.2.2.2.2.2.2.2.2.2.2.2.2.2.1, ck bc hHeld.2.2.2.2.2.2.2.2.2.2.2.2.2.2.2.2.2.2.2.2.2.2.1, ck bc hHeld.2.2.2.2.2.2.2.2.2.2.2.2.2.2.2.2.2.2.2.2.2.2.2.1, ck bc hHeld.2.2.2.2.2.2.2.2.2.2.2.2.2.2.2.2.2.2.2.2.2.2.2.2.1, ck bc hHeld.2.2.2.2.2.2.2.2.2.2.2.2.2.2.2.2.2.2.2.2.2.2.2.2.2.1, ck bc hHeld.2.2.2.2.2.2.2.2.2.2.2.2.2.2.2.2.2.2.2.2.2.2.2.2.2.2.1, ck bc hHeld.2.2.2.2.2.2.2.2.2.2.2.2.2.2.2.2.2.2.2.2.2.2.2.2.2.2.2.1, ck bc hHeld.2.2.2.2.2.2.2.2.2.2.2.2.2.2.2.2.2.2.2.2.2.2.2.2.2.2.2.2.1, ck bc hHeld.2.2.2.2.2.2.2.2.2.2.2.2.2.2.2.2.2.2.2.2.2.2.2.2.2.2.2.2.2.1, ck bc hHeld.2.2.2.2.2.2.2.2.2.2.2.2.2.2.2.2.2.2.2.2.2.2.2.2.2.2.2.2.2.2.1, ck bc hHeld.2.2.2.2.2.2.2.2.2.2.2.2.2.2.2.2.2.2.2.2.2.2.2.2.2.2.2.2.2.2.2.1, ck bc hHeld.2.2.2.2.2.2.2.2.2.2.2.2.2.2.2.2.2.2.2.2.2.2.2.2.2.2.2.2.2.2.2.2.1, ck bc hHeld.2.2.2.2.2.2.2.2.2.2.2.2.2.2.2.2.2.2.2.2.2.2.2.2.2.2.2.2.2.2.2.2.2⟩ (fun hHeld => ?_)
                  clear hK K
                  (try simp only [List.setIfInBounds_toArray, List.set_cons_zero, List.set_cons_succ])
                  have na_r1 := lo_ne (n := 1) lo1 k_n22
                  have na_r2 := lo_ne (n := 1) lo2 k_n22
                  replace k_r := bk bc k_r
                  replace k_s := bk bc k_s
                  replace k_u := bk bc k_u
                  replace k_q := bk bc k_q
                  replace k_both := bk bc k_both
                  replace k_all := bk bc k_all
                  replace k_read := bk bc k_read
                  replace k_place := bk bc k_place
                  replace k_n77 := bk bc k_n77
                  replace k_n22 := bk bc k_n22
                  replace bw := bst bc bw
                  (try replace r1 := (r1.below bc).more bc.size)
                  (try replace r2 := (r2.below bc).more bc.size)
                  clear bc
                  refine takx (i := 12) (D := 66) (v := .tuple #[.slice A1 1 c1, .slice A2 1 c2, .agg #[.int .i64 a, .int .i64 b, .int .i64 c, .int .i64 d, .int .i64 (c - a), .slice A3 N c3]]) rfl rfl (by kernel_rfl) (by kernel_rfl) (by kernel_rfl) (fun _ _ _ h => h) (Or.inl ⟨by rfl, fun W hSw => by (try dsimp only at hSw); go_simp⟩) (by assumption) ?_
                  (try simp only [List.setIfInBounds_toArray, List.set_cons_zero, List.set_cons_succ])
                  refine takx (i := 13) (D := 79) (v := .slice A1 1 c1) rfl rfl (by kernel_rfl) (by kernel_rfl) (by kernel_rfl) (fun _ _ _ h => h) (Or.inl ⟨by rfl, fun W hSw => by (try dsimp only at hSw); go_simp⟩) (by assumption) ?_
                  (try simp only [List.setIfInBounds_toArray, List.set_cons_zero, List.set_cons_succ])
                  refine takx (i := 14) (D := 80) (v := .slice A2 1 c2) rfl rfl (by kernel_rfl) (by kernel_rfl) (by kernel_rfl) (fun _ _ _ h => h) (Or.inl ⟨by rfl, fun W hSw => by (try dsimp only at hSw); go_simp⟩) (by assumption) ?_
                  (try simp only [List.setIfInBounds_toArray, List.set_cons_zero, List.set_cons_succ])
                  refine takx (i := 15) (D := 81) (v := .agg #[.int .i64 a, .int .i64 b, .int .i64 c, .int .i64 d, .int .i64 (c - a), .slice A3 N c3]) rfl rfl (by kernel_rfl) (by kernel_rfl) (by kernel_rfl) (fun _ _ _ h => h) (Or.inl ⟨by rfl, fun W hSw => by (try dsimp only at hSw); go_simp⟩) (by assumption) ?_
                  (try simp only [List.setIfInBounds_toArray, List.set_cons_zero, List.set_cons_succ])
                  refine takx (i := 17) (D := 20) (v := .slice A1 1 c1) rfl rfl (by kernel_rfl) (by kernel_rfl) (by kernel_rfl) (fun _ _ _ h => h) (Or.inl ⟨by rfl, fun W hSw => by (try dsimp only at hSw); go_simp⟩) (by assumption) ?_
                  (try simp only [List.setIfInBounds_toArray, List.set_cons_zero, List.set_cons_succ])
                  refine takx (i := 18) (D := 21) (v := .slice A2 1 c2) rfl rfl (by kernel_rfl) (by kernel_rfl) (by kernel_rfl) (fun _ _ _ h => h) (Or.inl ⟨by rfl, fun W hSw => by (try dsimp only at hSw); go_simp⟩) (by assumption) ?_
                  (try simp only [List.setIfInBounds_toArray, List.set_cons_zero, List.set_cons_succ])
                  refine wpAnyH_ready (rs := [19]) (by kernel_rfl) (by simp) ?_
                  refine (AllReadyH.cons rfl (fun K hK => ?_) AllReadyH.nil)
                  have qq := q6c k_n22
                  go_simp
                  clear qq
                  refine hK.out _ _ ⟨(cks ne_q_n22 (cks ne_q_n22 (cks ne_q_n22 (cks ne_q_n22 (cks ne_q_n22 (cks ne_q_n22 hHeld.1)))))), (cks ne_q_n22 (cks ne_q_n22 (cks ne_q_n22 (cks ne_q_n22 (cks ne_q_n22 (cks ne_q_n22 hHeld.2.1)))))), (cks ne_q_n22 (cks ne_q_n22 (cks ne_q_n22 (cks ne_q_n22 (cks ne_q_n22 (cks ne_q_n22 hHeld.2.2.1)))))), (cks ne_q_n22 (cks ne_q_n22 (cks ne_q_n22 (cks ne_q_n22 (cks ne_q_n22 (cks ne_q_n22 hHeld.2.2.2.1)))))), (cks ne_s_n22 (cks ne_s_n22 (cks ne_s_n22 (cks ne_s_n22 (cks ne_s_n22 (cks ne_s_n22 hHeld.2.2.2.2.1)))))), (cks ne_s_n22 (cks ne_s_n22 (cks ne_s_n22 (cks ne_s_n22 (cks ne_s_n22 (cks ne_s_n22 hHeld.2.2.2.2.2.1)))))), (cks ne_s_n22 (cks ne_s_n22 (cks ne_s_n22 (cks ne_s_n22 (cks ne_s_n22 (cks ne_s_n22 hHeld.2.2.2.2.2.2.1)))))), (cks ne_s_n22 (cks ne_s_n22 (cks ne_s_n22 (cks ne_s_n22 (cks ne_s_n22 (cks ne_s_n22 hHeld.2.2.2.2.2.2.2.1)))))), (cks ne_u_n22 (cks ne_u_n22 (cks ne_u_n22 (cks ne_u_n22 (cks ne_u_n22 (cks ne_u_n22 hHeld.2.2.2.2.2.2.2.2.1)))))), (cks ne_u_n22 (cks ne_u_n22 (cks ne_u_n22 (cks ne_u_n22 (cks ne_u_n22 (cks ne_u_n22 hHeld.2.2.2.2.2.2.2.2.2.1)))))), (cks ne_u_n22 (cks ne_u_n22 (cks ne_u_n22 (cks ne_u_n22 (cks ne_u_n22 (cks ne_u_n22 hHeld.2.2.2.2.2.2.2.2.2.2.1)))))), (cks ne_u_n22 (cks ne_u_n22 (cks ne_u_n22 (cks ne_u_n22 (cks ne_u_n22 (cks ne_u_n22 hHeld.2.2.2.2.2.2.2.2.2.2.2.1)))))), (cks ne_read_n22 (cks ne_read_n22 (cks ne_read_n22 (cks ne_read_n22 (cks ne_read_n22 (cks ne_read_n22 hHeld.2.2.2.2.2.2.2.2.2.2.2.2.1)))))), (cks ne_read_n22 (cks ne_read_n22 (cks ne_read_n22 (cks ne_read_n22 (cks ne_read_n22 (cks ne_read_n22 hHeld.2.2.2.2.2.2.2.2.2.2.2.2.2.1)))))), (cks ne_read_n22 (cks ne_read_n22 (cks ne_read_n22 (cks ne_read_n22 (cks ne_read_n22 (cks ne_read_n22 hHeld.2.2.2.2.2.2.2.2.2.2.2.2.2.2.1)))))), (cks ne_read_n22 (cks ne_read_n22 (cks ne_read_n22 (cks ne_read_n22 (cks ne_read_n22 (cks ne_read_n22 hHeld.2.2.2.2.2.2.2.2.2.2.2.2.2.2.2.1)))))), (cks ne_read_n22 (cks ne_read_n22 (cks ne_read_n22 (cks ne_read_n22 (cks ne_read_n22 (cks ne_read_n22 hHeld.2.2.2.2.2.2.2.2.2.2.2.2.2.2.2.2.1)))))), (cks ne_read_n22 (cks ne_read_n22 (cks ne_read_n22 (cks ne_read_n22 (cks ne_read_n22 (cks ne_read_n22 hHeld.2.2.2.2.2.2.2.2.2.2.2.2.2.2.2.2.2.1)))))), (cks ne_read_n22 (cks ne_read_n22 (cks ne_read_n22 (cks ne_read_n22 (cks ne_read_n22 (cks ne_read_n22 hHeld.2.2.2.2.2.2.2.2.2.2.2.2.2.2.2.2.2.2.1)))))), (cks ne_read_n22 (cks ne_read_n22 (cks ne_read_n22 (cks ne_read_n22 (cks ne_read_n22 (cks ne_read_n22 hHeld.2.2.2.2.2.2.2.2.2.2.2.2.2.2.2.2.2.2.2.1)))))), (cks ne_read_n22 (cks ne_read_n22 (cks ne_read_n22 (cks ne_read_n22 (cks ne_read_n22 (cks ne_read_n22 hHeld.2.2.2.2.2.2.2.2.2.2.2.2.2.2.2.2.2.2.2.2.1)))))), (cks ne_read_n22 (cks ne_read_n22 (cks ne_read_n22 (cks ne_read_n22 (cks ne_read_n22 (cks ne_read_n22 hHeld.2.2.2.2.2.2.2.2.2.2.2.2.2.2.2.2.2.2.2.2.2.1)))))), (cks ne_read_n22 (cks ne_read_n22 (cks ne_read_n22 (cks ne_read_n22 (cks ne_read_n22 (cks ne_read_n22 hHeld.2.2.2.2.2.2.2.2.2.2.2.2.2.2.2.2.2.2.2.2.2.2.1)))))), (cks ne_place_n22 (cks ne_place_n22 (cks ne_place_n22 (cks ne_place_n22 (cks ne_place_n22 (cks ne_place_n22 hHeld.2.2.2.2.2.2.2.2.2.2.2.2.2.2.2.2.2.2.2.2.2.2.2.1)))))), (cks ne_place_n22 (cks ne_place_n22 (cks ne_place_n22 (cks ne_place_n22 (cks ne_place_n22 (cks ne_place_n22 hHeld.2.2.2.2.2.2.2.2.2.2.2.2.2.2.2.2.2.2.2.2.2.2.2.2.1)))))), (cks ne_place_n22 (cks ne_place_n22 (cks ne_place_n22 (cks ne_place_n22 (cks ne_place_n22 (cks ne_place_n22 hHeld.2.2.2.2.2.2.2.2.2.2.2.2.2.2.2.2.2.2.2.2.2.2.2.2.2.1)))))), (cks ne_place_n22 (cks ne_place_n22 (cks ne_place_n22 (cks ne_place_n22 (cks ne_place_n22 (cks ne_place_n22 hHeld.2.2.2.2.2.2.2.2.2.2.2.2.2.2.2.2.2.2.2.2.2.2.2.2.2.2.1)))))), (cks ne_place_n22 (cks ne_place_n22 (cks ne_place_n22 (cks ne_place_n22 (cks ne_place_n22 (cks ne_place_n22 hHeld.2.2.2.2.2.2.2.2.2.2.2.2.2.2.2.2.2.2.2.2.2.2.2.2.2.2.2.1)))))), (cks ne_place_n22 (cks ne_place_n22 (cks ne_place_n22 (cks ne_place_n22 (cks ne_place_n22 (cks ne_place_n22 hHeld.2.2.2.2.2.2.2.2.2.2.2.2.2.2.2.2.2.2.2.2.2.2.2.2.2.2.2.2.1)))))), (cks ne_place_n22 (cks ne_place_n22 (cks ne_place_n22 (cks ne_place_n22 (cks ne_place_n22 (cks ne_place_n22 hHeld.2.2.2.2.2.2.2.2.2.2.2.2.2.2.2.2.2.2.2.2.2.2.2.2.2.2.2.2.2.1)))))), (cks ne_place_n22 (cks ne_place_n22 (cks ne_place_n22 (cks ne_place_n22 (cks ne_place_n22 (cks ne_place_n22 hHeld.2.2.2.2.2.2.2.2.2.2.2.2.2.2.2.2.2.2.2.2.2.2.2.2.2.2.2.2.2.2.1)))))), (cks ne_place_n22 (cks ne_place_n22 (cks ne_place_n22 (cks ne_place_n22 (cks ne_place_n22 (cks ne_place_n22 hHeld.2.2.2.2.2.2.2.2.2.2.2.2.2.2.2.2.2.2.2.2.2.2.2.2.2.2.2.2.2.2.2.1)))))), (cks ne_place_n22 (cks ne_place_n22 (cks ne_place_n22 (cks ne_place_n22 (cks ne_place_n22 (cks ne_place_n22 hHeld.2.2.2.2.2.2.2.2.2.2.2.2.2.2.2.2.2.2.2.2.2.2.2.2.2.2.2.2.2.2.2.2.1)))))), (cks ne_place_n22 (cks ne_place_n22 (cks ne_place_n22 (cks ne_place_n22 (cks ne_place_n22 (cks ne_place_n22 hHeld.2.2.2.2.2.2.2.2.2.2.2.2.2.2.2.2.2.2.2.2.2.2.2.2.2.2.2.2.2.2.2.2.2))))))⟩ (fun hHeld => ?_)
                  clear hK K
                  (try simp only [List.setIfInBounds_toArray, List.set_cons_zero, List.set_cons_succ])
                  obtain ⟨X49, eY⟩ : ∃ Y, Y = ((((((X48.setCell ⟨g47, 0, none⟩ (.int .i64 a)).setCell ⟨g47, 1, none⟩ (.int .i64 b)).setCell ⟨g47, 2, none⟩ (.int .i64 c)).setCell ⟨g47, 3, none⟩ (.int .i64 d)).setCell ⟨g47, 4, none⟩ (.int .i64 (c - a))).setCell ⟨g47, 5, none⟩ (.slice A3 N c3)) := ⟨_, rfl⟩
                  rw [← eY] at hHeld ⊢
                  replace k_r : X49.heap[w.heap.size]? = some (.cells #[.int .i64 a, .int .i64 b, .int .i64 c, .int .i64 d] 23 (0, 0)) := by rw [eY]; exact (bks ne_r_n22 (bks ne_r_n22 (bks ne_r_n22 (bks ne_r_n22 (bks ne_r_n22 (bks ne_r_n22 k_r))))))
                  replace k_s : X49.heap[w.heap.size + 1]? = some (.cells #[.int .i64 s.a, .int .i64 s.b, .int .i64 s.c, .int .i64 s.d] 23 (0, 0)) := by rw [eY]; exact (bks ne_s_n22 (bks ne_s_n22 (bks ne_s_n22 (bks ne_s_n22 (bks ne_s_n22 (bks ne_s_n22 k_s))))))
                  replace k_u : X49.heap[w.heap.size + 2]? = some (.cells #[.int .i64 u.a, .int .i64 u.b, .int .i64 u.c, .int .i64 u.d] 23 (0, 0)) := by rw [eY]; exact (bks ne_u_n22 (bks ne_u_n22 (bks ne_u_n22 (bks ne_u_n22 (bks ne_u_n22 (bks ne_u_n22 k_u))))))
                  replace k_q : X49.heap[g_q]? = some (.cells #[.int .i64 a, .int .i64 b, .int .i64 c, .int .i64 d] 26 (0, 0)) := by rw [eY]; exact (bks ne_q_n22 (bks ne_q_n22 (bks ne_q_n22 (bks ne_q_n22 (bks ne_q_n22 (bks ne_q_n22 k_q))))))
                  replace k_both : X49.heap[g_both]? = some (.cells #[.int .i64 p1.a, .int .i64 p1.b, .int .i64 p1.c, .int .i64 p1.d] 26 (0, 0)) := by rw [eY]; exact (bks ne_both_n22 (bks ne_both_n22 (bks ne_both_n22 (bks ne_both_n22 (bks ne_both_n22 (bks ne_both_n22 k_both))))))
                  replace k_all : X49.heap[g_all]? = some (.cells #[.int .i64 p2.a, .int .i64 p2.b, .int .i64 p2.c, .int .i64 p2.d] 26 (0, 0)) := by rw [eY]; exact (bks ne_all_n22 (bks ne_all_n22 (bks ne_all_n22 (bks ne_all_n22 (bks ne_all_n22 (bks ne_all_n22 k_all))))))
                  replace k_read : X49.heap[g_read]? = some (.cells #[.int .i64 2, .int .i64 x, .int .i64 y, .int .i64 0, .int .i64 0, .int .i64 0, .int .i64 0, .int .i64 0, .int .i64 0, .int .i64 0, .int .i64 0] 62 (0, 0)) := by rw [eY]; exact (bks ne_read_n22 (bks ne_read_n22 (bks ne_read_n22 (bks ne_read_n22 (bks ne_read_n22 (bks ne_read_n22 k_read))))))
                  replace k_place : X49.heap[g_place]? = some (.cells #[.int .i64 3, .int .i64 p2.a, .int .i64 p2.b, .int .i64 0, .int .i64 0, .int .i64 0, .int .i64 0, .int .i64 0, .int .i64 0, .int .i64 0, .int .i64 0] 62 (0, 0)) := by rw [eY]; exact (bks ne_place_n22 (bks ne_place_n22 (bks ne_place_n22 (bks ne_place_n22 (bks ne_place_n22 (bks ne_place_n22 k_place))))))
                  replace k_n77 : X49.heap[g43]? = some (.cells #[.int .i64 4, .int .i64 0, .int .i64 0, .int .i64 0, .int .i64 0, .int .i64 0, .int .i64 0, .int .i64 s.a, .int .i64 s.b, .int .i64 s.c, .int .i64 s.d, .int .i64 4, .int .i64 0, .int .i64 0, .int .i64 0, .int .i64 0, .int .i64 0, .int .i64 0, .int .i64 u.a, .int .i64 u.b, .int .i64 u.c, .int .i64 u.d, .int .i64 2, .int .i64 x, .int .i64 y, .int .i64 0, .int .i64 0, .int .i64 0, .int .i64 0, .int .i64 0, .int .i64 0, .int .i64 0, .int .i64 0, .int .i64 3, .int .i64 p2.a, .int .i64 p2.b, .int .i64 0, .int .i64 0, .int .i64 0, .int .i64 0, .int .i64 0, .int .i64 0, .int .i64 0, .int .i64 0] 62 (0, 0)) := by rw [eY]; exact (bks ne_n77_n22 (bks ne_n77_n22 (bks ne_n77_n22 (bks ne_n77_n22 (bks ne_n77_n22 (bks ne_n77_n22 k_n77))))))
                  replace bw : Below w.heap.size w X49 := by rw [eY]; exact (bss lo_n22 (bss lo_n22 (bss lo_n22 (bss lo_n22 (bss lo_n22 (bss lo_n22 bw))))))
                  replace k_n22 : X49.heap[g47]? = some (.cells #[.int .i64 a, .int .i64 b, .int .i64 c, .int .i64 d, .int .i64 (c - a), .slice A3 N c3] 29 (0, 0)) := by rw [eY]; exact q6s k_n22
                  (try replace r1 := Rd.sized (W := X49) (Rd.sset na_r1 (Rd.sset na_r1 (Rd.sset na_r1 (Rd.sset na_r1 (Rd.sset na_r1 (Rd.sset na_r1 r1)))))) eY)
                  (try replace r2 := Rd.sized (W := X49) (Rd.sset na_r2 (Rd.sset na_r2 (Rd.sset na_r2 (Rd.sset na_r2 (Rd.sset na_r2 (Rd.sset na_r2 r2)))))) eY)
                  clear eY
                  refine wpAnyH_done (by kernel_rfl) ?_ _
                  go_wp2_with fail
                  go_meet
                  exact ⟨_, A1, c1, A2, c2, A3, c3, rfl, rfl, rfl, k_n22, k_r, k_s, k_u, k_q, k_both, k_all, k_read, k_place, r1, r2, bw⟩
              · go_simp
                refine hK.out _ _ ⟨cka hHeld.1, cka hHeld.2.1, cka hHeld.2.2.1, cka hHeld.2.2.2.1, cka hHeld.2.2.2.2.1, cka hHeld.2.2.2.2.2.1, cka hHeld.2.2.2.2.2.2.1, cka hHeld.2.2.2.2.2.2.2.1, cka hHeld.2.2.2.2.2.2.2.2.1, cka hHeld.2.2.2.2.2.2.2.2.2.1, cka hHeld.2.2.2.2.2.2.2.2.2.2.1, cka hHeld.2.2.2.2.2.2.2.2.2.2.2.1, cka hHeld.2.2.2.2.2.2.2.2.2.2.2.2.1, cka hHeld.2.2.2.2.2.2.2.2.2.2.2.2.2.1, cka hHeld.2.2.2.2.2.2.2.2.2.2.2.2.2.2.1, cka hHeld.2.2.2.2.2.2.2.2.2.2.2.2.2.2.2.1, cka hHeld.2.2.2.2.2.2.2.2.2.2.2.2.2.2.2.2.1, cka hHeld.2.2.2.2.2.2.2.2.2.2.2.2.2.2.2.2.2.1, cka hHeld.2.2.2.2.2.2.2.2.2.2.2.2.2.2.2.2.2.2.1, cka hHeld.2.2.2.2.2.2.2.2.2.2.2.2.2.2.2.2.2.2.2.1, cka hHeld.2.2.2.2.2.2.2.2.2.2.2.2.2.2.2.2.2.2.2.2.1, cka hHeld.2.2.2.2.2.2.2.2.2.2.2.2.2.2.2.2.2.2.2.2.2.1, cka hHeld.2.2.2.2.2.2.2.2.2.2.2.2.2.2.2.2.2.2.2.2.2.2.1, cka hHeld.2.2.2.2.2.2.2.2.2.2.2.2.2.2.2.2.2.2.2.2.2.2.2.1, cka hHeld.2.2.2.2.2.2.2.2.2.2.2.2.2.2.2.2.2.2.2.2.2.2.2.2.1, cka hHeld.2.2.2.2.2.2.2.2.2.2.2.2.2.2.2.2.2.2.2.2.2.2.2.2.2.1, cka hHeld.2.2.2.2.2.2.2.2.2.2.2.2.2.2.2.2.2.2.2.2.2.2.2.2.2.2.1, cka hHeld.2.2.2.2.2.2.2.2.2.2.2.2.2.2.2.2.2.2.2.2.2.2.2.2.2.2.2.1, cka hHeld.2.2.2.2.2.2.2.2.2.2.2.2.2.2.2.2.2.2.2.2.2.2.2.2.2.2.2.2.1, cka hHeld.2.2.2.2.2.2.2.2.2.2.2.2.2.2.2.2.2.2.2.2.2.2.2.2.2.2.2.2.2.1, cka hHeld.2.2.2.2.2.2.2.2.2.2.2.2.2.2.2.2.2.2.2.2.2.2.2.2.2.2.2.2.2.2.1, cka hHeld.2.2.2.2.2.2.2.2.2.2.2.2.2.2.2.2.2.2.2.2.2.2.2.2.2.2.2.2.2.2.2.1, cka hHeld.2.2.2.2.2.2.2.2.2.2.2.2.2.2.2.2.2.2.2.2.2.2.2.2.2.2.2.2.2.2.2.2.1, cka hHeld.2.2.2.2.2.2.2.2.2.2.2.2.2.2.2.2.2.2.2.2.2.2.2.2.2.2.2.2.2.2.2.2.2⟩ (fun hHeld => ?_)
                clear hK K
                (try simp only [List.setIfInBounds_toArray, List.set_cons_zero, List.set_cons_succ])
                obtain ⟨X50, g50, eY, eg⟩ : ∃ Y g, Y = X42.alloc (.cells #[.int .i64 0, .int .i64 0, .int .i64 0, .int .i64 0, .int .i64 0, .slice none 0 0] 29) ∧ g = X42.heap.size := ⟨_, _, rfl, rfl⟩
                rw [← eY, ← eg]
                rw [← eY] at hHeld
                have bc : Below X42.heap.size X42 X50 := by rw [eY]; exact (Below.refl _ _).alloc (Nat.le_refl _) _
                have k_n22 : X50.heap[g50]? = some (.cells #[.int .i64 0, .int .i64 0, .int .i64 0, .int .i64 0, .int .i64 0, .slice none 0 0] 29 (0, 0)) := by rw [eY, eg]; exact heap_alloc_new X42 _
                have lo_n22 : w.heap.size ≤ g50 := by rw [eg]; exact bw.size
                have ne_r_n22 : ¬ w.heap.size = g50 := ne_new k_r eg
                have ne_s_n22 : ¬ w.heap.size + 1 = g50 := ne_new k_s eg
                have ne_u_n22 : ¬ w.heap.size + 2 = g50 := ne_new k_u eg
                have ne_q_n22 : ¬ g_q = g50 := ne_new k_q eg
                have ne_both_n22 : ¬ g_both = g50 := ne_new k_both eg
                have ne_all_n22 : ¬ g_all = g50 := ne_new k_all eg
                have ne_read_n22 : ¬ g_read = g50 := ne_new k_read eg
                have ne_place_n22 : ¬ g_place = g50 := ne_new k_place eg
                (try have na_r1 := Rd.ne_new r1 eg)
                (try have na_r2 := Rd.ne_new r2 eg)
                replace k_r := bk bc k_r
                replace k_s := bk bc k_s
                replace k_u := bk bc k_u
                replace k_q := bk bc k_q
                replace k_both := bk bc k_both
                replace k_all := bk bc k_all
                replace k_read := bk bc k_read
                replace k_place := bk bc k_place
                replace bw := bst bc bw
                (try replace r1 := (r1.below bc).more bc.size)
                (try replace r2 := (r2.below bc).more bc.size)
                clear bc eY eg
                refine wpAnyH_ready (rs := [10]) (by kernel_rfl) (by simp) ?_
                refine (AllReadyH.cons rfl (fun K hK => ?_) AllReadyH.nil)
                go_simp
                refine hK.out _ _ ⟨cka hHeld.1, cka hHeld.2.1, cka hHeld.2.2.1, cka hHeld.2.2.2.1, cka hHeld.2.2.2.2.1, cka hHeld.2.2.2.2.2.1, cka hHeld.2.2.2.2.2.2.1, cka hHeld.2.2.2.2.2.2.2.1, cka hHeld.2.2.2.2.2.2.2.2.1, cka hHeld.2.2.2.2.2.2.2.2.2.1, cka hHeld.2.2.2.2.2.2.2.2.2.2.1, cka hHeld.2.2.2.2.2.2.2.2.2.2.2.1, cka hHeld.2.2.2.2.2.2.2.2.2.2.2.2.1, cka hHeld.2.2.2.2.2.2.2.2.2.2.2.2.2.1, cka hHeld.2.2.2.2.2.2.2.2.2.2.2.2.2.2.1, cka hHeld.2.2.2.2.2.2.2.2.2.2.2.2.2.2.2.1, cka hHeld.2.2.2.2.2.2.2.2.2.2.2.2.2.2.2.2.1, cka hHeld.2.2.2.2.2.2.2.2.2.2.2.2.2.2.2.2.2.1, cka hHeld.2.2.2.2.2.2.2.2.2.2.2.2.2.2.2.2.2.2.1, cka hHeld.2.2.2.2.2.2.2.2.2.2.2.2.2.2.2.2.2.2.2.1, cka hHeld.2.2.2.2.2.2.2.2.2.2.2.2.2.2.2.2.2.2.2.2.1, cka hHeld.2.2.2.2.2.2.2.2.2.2.2.2.2.2.2.2.2.2.2.2.2.1, cka hHeld.2.2.2.2.2.2.2.2.2.2.2.2.2.2.2.2.2.2.2.2.2.2.1, cka hHeld.2.2.2.2.2.2.2.2.2.2.2.2.2.2.2.2.2.2.2.2.2.2.2.1, cka hHeld.2.2.2.2.2.2.2.2.2.2.2.2.2.2.2.2.2.2.2.2.2.2.2.2.1, cka hHeld.2.2.2.2.2.2.2.2.2.2.2.2.2.2.2.2.2.2.2.2.2.2.2.2.2.1, cka hHeld.2.2.2.2.2.2.2.2.2.2.2.2.2.2.2.2.2.2.2.2.2.2.2.2.2.2.1, cka hHeld.2.2.2.2.2.2.2.2.2.2.2.2.2.2.2.2.2.2.2.2.2.2.2.2.2.2.2.1, cka hHeld.2.2.2.2.2.2.2.2.2.2.2.2.2.2.2.2.2.2.2.2.2.2.2.2.2.2.2.2.1, cka hHeld.2.2.2.2.2.2.2.2.2.2.2.2.2.2.2.2.2.2.2.2.2.2.2.2.2.2.2.2.2.1, cka hHeld.2.2.2.2.2.2.2.2.2.2.2.2.2.2.2.2.2.2.2.2.2.2.2.2.2.2.2.2.2.2.1, cka hHeld.2.2.2.2.2.2.2.2.2.2.2.2.2.2.2.2.2.2.2.2.2.2.2.2.2.2.2.2.2.2.2.1, cka hHeld.2.2.2.2.2.2.2.2.2.2.2.2.2.2.2.2.2.2.2.2.2.2.2.2.2.2.2.2.2.2.2.2.1, cka hHeld.2.2.2.2.2.2.2.2.2.2.2.2.2.2.2.2.2.2.2.2.2.2.2.2.2.2.2.2.2.2.2.2.2⟩ (fun hHeld => ?_)
                clear hK K
                (try simp only [List.setIfInBounds_toArray, List.set_cons_zero, List.set_cons_succ])
                obtain ⟨X51, g51, eY, eg⟩ : ∃ Y g, Y = X50.alloc (.cells #[.int .i64 4, .int .i64 0, .int .i64 0, .int .i64 0, .int .i64 0, .int .i64 0, .int .i64 0, .int .i64 s.a, .int .i64 s.b, .int .i64 s.c, .int .i64 s.d, .int .i64 4, .int .i64 0, .int .i64 0, .int .i64 0, .int .i64 0, .int .i64 0, .int .i64 0, .int .i64 u.a, .int .i64 u.b, .int .i64 u.c, .int .i64 u.d, .int .i64 2, .int .i64 x, .int .i64 y, .int .i64 0, .int .i64 0, .int .i64 0, .int .i64 0, .int .i64 0, .int .i64 0, .int .i64 0, .int .i64 0, .int .i64 3, .int .i64 p2.a, .int .i64 p2.b, .int .i64 0, .int .i64 0, .int .i64 0, .int .i64 0, .int .i64 0, .int .i64 0, .int .i64 0, .int .i64 0] 62) ∧ g = X50.heap.size := ⟨_, _, rfl, rfl⟩
                rw [← eY, ← eg]
                rw [← eY] at hHeld
                have bc : Below X50.heap.size X50 X51 := by rw [eY]; exact (Below.refl _ _).alloc (Nat.le_refl _) _
                have k_n77 : X51.heap[g51]? = some (.cells #[.int .i64 4, .int .i64 0, .int .i64 0, .int .i64 0, .int .i64 0, .int .i64 0, .int .i64 0, .int .i64 s.a, .int .i64 s.b, .int .i64 s.c, .int .i64 s.d, .int .i64 4, .int .i64 0, .int .i64 0, .int .i64 0, .int .i64 0, .int .i64 0, .int .i64 0, .int .i64 u.a, .int .i64 u.b, .int .i64 u.c, .int .i64 u.d, .int .i64 2, .int .i64 x, .int .i64 y, .int .i64 0, .int .i64 0, .int .i64 0, .int .i64 0, .int .i64 0, .int .i64 0, .int .i64 0, .int .i64 0, .int .i64 3, .int .i64 p2.a, .int .i64 p2.b, .int .i64 0, .int .i64 0, .int .i64 0, .int .i64 0, .int .i64 0, .int .i64 0, .int .i64 0, .int .i64 0] 62 (0, 0)) := by rw [eY, eg]; exact heap_alloc_new X50 _
                have ne_n77_n22 : ¬ g51 = g50 := fun e => ne_new k_n22 eg e.symm
                replace k_r := bk bc k_r
                replace k_s := bk bc k_s
                replace k_u := bk bc k_u
                replace k_q := bk bc k_q
                replace k_both := bk bc k_both
                replace k_all := bk bc k_all
                replace k_read := bk bc k_read
                replace k_place := bk bc k_place
                replace k_n22 := bk bc k_n22
                replace bw := bst bc bw
                (try replace r1 := (r1.below bc).more bc.size)
                (try replace r2 := (r2.below bc).more bc.size)
                clear bc eY eg
                refine wpAnyH_ready (rs := [11]) (by kernel_rfl) (by simp) ?_
                refine (AllReadyH.cons rfl (fun K hK => ?_) AllReadyH.nil)
                go_simp
                refine ((grayRun_any a b c d N h3 h4 h5 h6 HN.out n cp Z zs 4 4 _ [⟨4, 0, 0, ⟨0, 0, 0, 0⟩, s⟩, ⟨4, 0, 0, ⟨0, 0, 0, 0⟩, u⟩, ⟨2, x, y, ⟨0, 0, 0, 0⟩, ⟨0, 0, 0, 0⟩⟩, ⟨3, p2.a, p2.b, ⟨0, 0, 0, 0⟩, ⟨0, 0, 0, 0⟩⟩] _ ((HR.out.below bw).more bw.size) (RdSteps.of_block (ss := [⟨4, 0, 0, ⟨0, 0, 0, 0⟩, s⟩, ⟨4, 0, 0, ⟨0, 0, 0, 0⟩, u⟩, ⟨2, x, y, ⟨0, 0, 0, 0⟩, ⟨0, 0, 0, 0⟩⟩, ⟨3, p2.a, p2.b, ⟨0, 0, 0, 0⟩, ⟨0, 0, 0, 0⟩⟩]) (m := 4) k_n77 rfl rfl (by decide) OK1.out)).mono (fun _ _ h => h.offs (k := 1) (m := 1) (cs := [rdAt (byt N zs) a b c d x y]) (os := [0]) E1.out.1 rfl E1.out.2.1 E1.out.2.2 rfl)).mono ?_
                rintro e X52 ⟨A1, c1, A2, c2, A3, c3, rfl, r1, r2, lo1, lo2, bc⟩
                refine hK.out _ _ ⟨ck bc hHeld.1, ck bc hHeld.2.1, ck bc hHeld.2.2.1, ck bc hHeld.2.2.2.1, ck bc hHeld.2.2.2.2.1, ck bc hHeld.2.2.2.2.2.1, ck bc hHeld.2.2.2.2.2.2.1, ck bc hHeld.2.2.2.2.2.2.2.1, ck bc hHeld.2.2.2.2.2.2.2.2.1, ck bc hHeld.2.2.2.2.2.2.2.2.2.1, ck bc hHeld.2.2.2.2.2.2.2.2.2.2.1, ck bc hHeld.2.2.2.2.2.2.2.2.2.2.2.1, ck bc hHeld.2.2.2.2.2.2.2.2.2.2.2.2.1, ck bc hHeld.2.2.2.2.2.2.2.2.2.2.2.2.2.1, ck bc hHeld.2.2.2.2.2.2.2.2.2.2.2.2.2.2.1, ck bc hHeld.2.2.2.2.2.2.2.2.2.2.2.2.2.2.2.1, ck bc hHeld.2.2.2.2.2.2.2.2.2.2.2.2.2.2.2.2.1, ck bc hHeld.2.2.2.2.2.2.2.2.2.2.2.2.2.2.2.2.2.1, ck bc hHeld.2.2.2.2.2.2.2.2.2.2.2.2.2.2.2.2.2.2.1, ck bc hHeld.2.2.2.2.2.2.2.2.2.2.2.2.2.2.2.2.2.2.2.1, ck bc hHeld.2.2.2.2.2.2.2.2.2.2.2.2.2.2.2.2.2.2.2.2.1, ck bc hHeld.2.2.2.2.2.2.2.2.2.2.2.2.2.2.2.2.2.2.2.2.2.1, ck bc hHeld.2.2.2.2.2.2.2.2.2.2.2.2.2.2.2.2.2.2.2.2.2.2.1, ck bc hHeld.2.2.2.2.2.2.2.2.2.2.2.2.2.2.2.2.2.2.2.2.2.2.2.1, ck bc hHeld.2.2.2.2.2.2.2.2.2.2.2.2.2.2.2.2.2.2.2.2.2.2.2.2.1, ck bc hHeld.2.2.2.2.2.2.2.2.2.2.2.2.2.2.2.2.2.2.2.2.2.2.2.2.2.1, ck bc hHeld.2.2.2.2.2.2.2.2.2.2.2.2.2.2.2.2.2.2.2.2.2.2.2.2.2.2.1, ck bc hHeld.2.2.2.2.2.2.2.2.2.2.2.2.2.2.2.2.2.2.2.2.2.2.2.2.2.2.2.1, ck bc hHeld.2.2.2.2.2.2.2.2.2.2.2.2.2.2.2.2.2.2.2.2.2.2.2.2.2.2.2.2.1, ck bc hHeld.2.2.2.2.2.2.2.2.2.2.2.2.2.2.2.2.2.2.2.2.2.2.2.2.2.2.2.2.2.1, ck bc hHeld.2.2.2.2.2.2.2.2.2.2.2.2.2.2.2.2.2.2.2.2.2.2.2.2.2.2.2.2.2.2.1, ck bc hHeld.2.2.2.2.2.2.2.2.2.2.2.2.2.2.2.2.2.2.2.2.2.2.2.2.2.2.2.2.2.2.2.1, ck bc hHeld.2.2.2.2.2.2.2.2.2.2.2.2.2.2.2.2.2.2.2.2.2.2.2.2.2.2.2.2.2.2.2.2.1, ck bc hHeld.2.2.2.2.2.2.2.2.2.2.2.2.2.2.2.2.2.2.2.2.2.2.2.2.2.2.2.2.2.2.2.2.2⟩ (fun hHeld => ?_)
                clear hK K
                (try simp only [List.setIfInBounds_toArray, List.set_cons_zero, List.set_cons_succ])
                have na_r1 := lo_ne (n := 1) lo1 k_n22
                have na_r2 := lo_ne (n := 1) lo2 k_n22
                replace k_r := bk bc k_r
                replace k_s := bk bc k_s
                replace k_u := bk bc k_u
                replace k_q := bk bc k_q
                replace k_both := bk bc k_both
                replace k_all := bk bc k_all
                replace k_read := bk bc k_read
                replace k_place := bk bc k_place
                replace k_n22 := bk bc k_n22
                replace k_n77 := bk bc k_n77
                replace bw := bst bc bw
                (try replace r1 := (r1.below bc).more bc.size)
                (try replace r2 := (r2.below bc).more bc.size)
                clear bc
                refine takx (i := 12) (D := 66) (v := .tuple #[.slice A1 1 c1, .slice A2 1 c2, .agg #[.int .i64 a, .int .i64 b, .int .i64 c, .int .i64 d, .int .i64 (c - a), .slice A3 N c3]]) rfl rfl (by kernel_rfl) (by kernel_rfl) (by kernel_rfl) (fun _ _ _ h => h) (Or.inl ⟨by rfl, fun W hSw => by (try dsimp only at hSw); go_simp⟩) (by assumption) ?_
                (try simp only [List.setIfInBounds_toArray, List.set_cons_zero, List.set_cons_succ])
                refine takx (i := 13) (D := 79) (v := .slice A1 1 c1) rfl rfl (by kernel_rfl) (by kernel_rfl) (by kernel_rfl) (fun _ _ _ h => h) (Or.inl ⟨by rfl, fun W hSw => by (try dsimp only at hSw); go_simp⟩) (by assumption) ?_
                (try simp only [List.setIfInBounds_toArray, List.set_cons_zero, List.set_cons_succ])
                refine takx (i := 14) (D := 80) (v := .slice A2 1 c2) rfl rfl (by kernel_rfl) (by kernel_rfl) (by kernel_rfl) (fun _ _ _ h => h) (Or.inl ⟨by rfl, fun W hSw => by (try dsimp only at hSw); go_simp⟩) (by assumption) ?_
                (try simp only [List.setIfInBounds_toArray, List.set_cons_zero, List.set_cons_succ])
                refine takx (i := 15) (D := 81) (v := .agg #[.int .i64 a, .int .i64 b, .int .i64 c, .int .i64 d, .int .i64 (c - a), .slice A3 N c3]) rfl rfl (by kernel_rfl) (by kernel_rfl) (by kernel_rfl) (fun _ _ _ h => h) (Or.inl ⟨by rfl, fun W hSw => by (try dsimp only at hSw); go_simp⟩) (by assumption) ?_
                (try simp only [List.setIfInBounds_toArray, List.set_cons_zero, List.set_cons_succ])
                refine takx (i := 17) (D := 20) (v := .slice A1 1 c1) rfl rfl (by kernel_rfl) (by kernel_rfl) (by kernel_rfl) (fun _ _ _ h => h) (Or.inl ⟨by rfl, fun W hSw => by (try dsimp only at hSw); go_simp⟩) (by assumption) ?_
                (try simp only [List.setIfInBounds_toArray, List.set_cons_zero, List.set_cons_succ])
                refine takx (i := 18) (D := 21) (v := .slice A2 1 c2) rfl rfl (by kernel_rfl) (by kernel_rfl) (by kernel_rfl) (fun _ _ _ h => h) (Or.inl ⟨by rfl, fun W hSw => by (try dsimp only at hSw); go_simp⟩) (by assumption) ?_
                (try simp only [List.setIfInBounds_toArray, List.set_cons_zero, List.set_cons_succ])
                refine wpAnyH_ready (rs := [19]) (by kernel_rfl) (by simp) ?_
                refine (AllReadyH.cons rfl (fun K hK => ?_) AllReadyH.nil)
                have qq := q6c k_n22
                go_simp
                clear qq
                refine hK.out _ _ ⟨(cks ne_q_n22 (cks ne_q_n22 (cks ne_q_n22 (cks ne_q_n22 (cks ne_q_n22 (cks ne_q_n22 hHeld.1)))))), (cks ne_q_n22 (cks ne_q_n22 (cks ne_q_n22 (cks ne_q_n22 (cks ne_q_n22 (cks ne_q_n22 hHeld.2.1)))))), (cks ne_q_n22 (cks ne_q_n22 (cks ne_q_n22 (cks ne_q_n22 (cks ne_q_n22 (cks ne_q_n22 hHeld.2.2.1)))))), (cks ne_q_n22 (cks ne_q_n22 (cks ne_q_n22 (cks ne_q_n22 (cks ne_q_n22 (cks ne_q_n22 hHeld.2.2.2.1)))))), (cks ne_s_n22 (cks ne_s_n22 (cks ne_s_n22 (cks ne_s_n22 (cks ne_s_n22 (cks ne_s_n22 hHeld.2.2.2.2.1)))))), (cks ne_s_n22 (cks ne_s_n22 (cks ne_s_n22 (cks ne_s_n22 (cks ne_s_n22 (cks ne_s_n22 hHeld.2.2.2.2.2.1)))))), (cks ne_s_n22 (cks ne_s_n22 (cks ne_s_n22 (cks ne_s_n22 (cks ne_s_n22 (cks ne_s_n22 hHeld.2.2.2.2.2.2.1)))))), (cks ne_s_n22 (cks ne_s_n22 (cks ne_s_n22 (cks ne_s_n22 (cks ne_s_n22 (cks ne_s_n22 hHeld.2.2.2.2.2.2.2.1)))))), (cks ne_u_n22 (cks ne_u_n22 (cks ne_u_n22 (cks ne_u_n22 (cks ne_u_n22 (cks ne_u_n22 hHeld.2.2.2.2.2.2.2.2.1)))))), (cks ne_u_n22 (cks ne_u_n22 (cks ne_u_n22 (cks ne_u_n22 (cks ne_u_n22 (cks ne_u_n22 hHeld.2.2.2.2.2.2.2.2.2.1)))))), (cks ne_u_n22 (cks ne_u_n22 (cks ne_u_n22 (cks ne_u_n22 (cks ne_u_n22 (cks ne_u_n22 hHeld.2.2.2.2.2.2.2.2.2.2.1)))))), (cks ne_u_n22 (cks ne_u_n22 (cks ne_u_n22 (cks ne_u_n22 (cks ne_u_n22 (cks ne_u_n22 hHeld.2.2.2.2.2.2.2.2.2.2.2.1)))))), (cks ne_read_n22 (cks ne_read_n22 (cks ne_read_n22 (cks ne_read_n22 (cks ne_read_n22 (cks ne_read_n22 hHeld.2.2.2.2.2.2.2.2.2.2.2.2.1)))))), (cks ne_read_n22 (cks ne_read_n22 (cks ne_read_n22 (cks ne_read_n22 (cks ne_read_n22 (cks ne_read_n22 hHeld.2.2.2.2.2.2.2.2.2.2.2.2.2.1)))))), (cks ne_read_n22 (cks ne_read_n22 (cks ne_read_n22 (cks ne_read_n22 (cks ne_read_n22 (cks ne_read_n22 hHeld.2.2.2.2.2.2.2.2.2.2.2.2.2.2.1)))))), (cks ne_read_n22 (cks ne_read_n22 (cks ne_read_n22 (cks ne_read_n22 (cks ne_read_n22 (cks ne_read_n22 hHeld.2.2.2.2.2.2.2.2.2.2.2.2.2.2.2.1)))))), (cks ne_read_n22 (cks ne_read_n22 (cks ne_read_n22 (cks ne_read_n22 (cks ne_read_n22 (cks ne_read_n22 hHeld.2.2.2.2.2.2.2.2.2.2.2.2.2.2.2.2.1)))))), (cks ne_read_n22 (cks ne_read_n22 (cks ne_read_n22 (cks ne_read_n22 (cks ne_read_n22 (cks ne_read_n22 hHeld.2.2.2.2.2.2.2.2.2.2.2.2.2.2.2.2.2.1)))))), (cks ne_read_n22 (cks ne_read_n22 (cks ne_read_n22 (cks ne_read_n22 (cks ne_read_n22 (cks ne_read_n22 hHeld.2.2.2.2.2.2.2.2.2.2.2.2.2.2.2.2.2.2.1)))))), (cks ne_read_n22 (cks ne_read_n22 (cks ne_read_n22 (cks ne_read_n22 (cks ne_read_n22 (cks ne_read_n22 hHeld.2.2.2.2.2.2.2.2.2.2.2.2.2.2.2.2.2.2.2.1)))))), (cks ne_read_n22 (cks ne_read_n22 (cks ne_read_n22 (cks ne_read_n22 (cks ne_read_n22 (cks ne_read_n22 hHeld.2.2.2.2.2.2.2.2.2.2.2.2.2.2.2.2.2.2.2.2.1)))))), (cks ne_read_n22 (cks ne_read_n22 (cks ne_read_n22 (cks ne_read_n22 (cks ne_read_n22 (cks ne_read_n22 hHeld.2.2.2.2.2.2.2.2.2.2.2.2.2.2.2.2.2.2.2.2.2.1)))))), (cks ne_read_n22 (cks ne_read_n22 (cks ne_read_n22 (cks ne_read_n22 (cks ne_read_n22 (cks ne_read_n22 hHeld.2.2.2.2.2.2.2.2.2.2.2.2.2.2.2.2.2.2.2.2.2.2.1)))))), (cks ne_place_n22 (cks ne_place_n22 (cks ne_place_n22 (cks ne_place_n22 (cks ne_place_n22 (cks ne_place_n22 hHeld.2.2.2.2.2.2.2.2.2.2.2.2.2.2.2.2.2.2.2.2.2.2.2.1)))))), (cks ne_place_n22 (cks ne_place_n22 (cks ne_place_n22 (cks ne_place_n22 (cks ne_place_n22 (cks ne_place_n22 hHeld.2.2.2.2.2.2.2.2.2.2.2.2.2.2.2.2.2.2.2.2.2.2.2.2.1)))))), (cks ne_place_n22 (cks ne_place_n22 (cks ne_place_n22 (cks ne_place_n22 (cks ne_place_n22 (cks ne_place_n22 hHeld.2.2.2.2.2.2.2.2.2.2.2.2.2.2.2.2.2.2.2.2.2.2.2.2.2.1)))))), (cks ne_place_n22 (cks ne_place_n22 (cks ne_place_n22 (cks ne_place_n22 (cks ne_place_n22 (cks ne_place_n22 hHeld.2.2.2.2.2.2.2.2.2.2.2.2.2.2.2.2.2.2.2.2.2.2.2.2.2.2.1)))))), (cks ne_place_n22 (cks ne_place_n22 (cks ne_place_n22 (cks ne_place_n22 (cks ne_place_n22 (cks ne_place_n22 hHeld.2.2.2.2.2.2.2.2.2.2.2.2.2.2.2.2.2.2.2.2.2.2.2.2.2.2.2.1)))))), (cks ne_place_n22 (cks ne_place_n22 (cks ne_place_n22 (cks ne_place_n22 (cks ne_place_n22 (cks ne_place_n22 hHeld.2.2.2.2.2.2.2.2.2.2.2.2.2.2.2.2.2.2.2.2.2.2.2.2.2.2.2.2.1)))))), (cks ne_place_n22 (cks ne_place_n22 (cks ne_place_n22 (cks ne_place_n22 (cks ne_place_n22 (cks ne_place_n22 hHeld.2.2.2.2.2.2.2.2.2.2.2.2.2.2.2.2.2.2.2.2.2.2.2.2.2.2.2.2.2.1)))))), (cks ne_place_n22 (cks ne_place_n22 (cks ne_place_n22 (cks ne_place_n22 (cks ne_place_n22 (cks ne_place_n22 hHeld.2.2.2.2.2.2.2.2.2.2.2.2.2.2.2.2.2.2.2.2.2.2.2.2.2.2.2.2.2.2.1)))))), (cks ne_place_n22 (cks ne_place_n22 (cks ne_place_n22 (cks ne_place_n22 (cks ne_place_n22 (cks ne_place_n22 hHeld.2.2.2.2.2.2.2.2.2.2.2.2.2.2.2.2.2.2.2.2.2.2.2.2.2.2.2.2.2.2.2.1)))))), (cks ne_place_n22 (cks ne_place_n22 (cks ne_place_n22 (cks ne_place_n22 (cks ne_place_n22 (cks ne_place_n22 hHeld.2.2.2.2.2.2.2.2.2.2.2.2.2.2.2.2.2.2.2.2.2.2.2.2.2.2.2.2.2.2.2.2.1)))))), (cks ne_place_n22 (cks ne_place_n22 (cks ne_place_n22 (cks ne_place_n22 (cks ne_place_n22 (cks ne_place_n22 hHeld.2.2.2.2.2.2.2.2.2.2.2.2.2.2.2.2.2.2.2.2.2.2.2.2.2.2.2.2.2.2.2.2.2))))))⟩ (fun hHeld => ?_)
                clear hK K
                (try simp only [List.setIfInBounds_toArray, List.set_cons_zero, List.set_cons_succ])
                obtain ⟨X53, eY⟩ : ∃ Y, Y = ((((((X52.setCell ⟨g50, 0, none⟩ (.int .i64 a)).setCell ⟨g50, 1, none⟩ (.int .i64 b)).setCell ⟨g50, 2, none⟩ (.int .i64 c)).setCell ⟨g50, 3, none⟩ (.int .i64 d)).setCell ⟨g50, 4, none⟩ (.int .i64 (c - a))).setCell ⟨g50, 5, none⟩ (.slice A3 N c3)) := ⟨_, rfl⟩
                rw [← eY] at hHeld ⊢
                replace k_r : X53.heap[w.heap.size]? = some (.cells #[.int .i64 a, .int .i64 b, .int .i64 c, .int .i64 d] 23 (0, 0)) := by rw [eY]; exact (bks ne_r_n22 (bks ne_r_n22 (bks ne_r_n22 (bks ne_r_n22 (bks ne_r_n22 (bks ne_r_n22 k_r))))))
                replace k_s : X53.heap[w.heap.size + 1]? = some (.cells #[.int .i64 s.a, .int .i64 s.b, .int .i64 s.c, .int .i64 s.d] 23 (0, 0)) := by rw [eY]; exact (bks ne_s_n22 (bks ne_s_n22 (bks ne_s_n22 (bks ne_s_n22 (bks ne_s_n22 (bks ne_s_n22 k_s))))))
                replace k_u : X53.heap[w.heap.size + 2]? = some (.cells #[.int .i64 u.a, .int .i64 u.b, .int .i64 u.c, .int .i64 u.d] 23 (0, 0)) := by rw [eY]; exact (bks ne_u_n22 (bks ne_u_n22 (bks ne_u_n22 (bks ne_u_n22 (bks ne_u_n22 (bks ne_u_n22 k_u))))))
                replace k_q : X53.heap[g_q]? = some (.cells #[.int .i64 a, .int .i64 b, .int .i64 c, .int .i64 d] 26 (0, 0)) := by rw [eY]; exact (bks ne_q_n22 (bks ne_q_n22 (bks ne_q_n22 (bks ne_q_n22 (bks ne_q_n22 (bks ne_q_n22 k_q))))))
                replace k_both : X53.heap[g_both]? = some (.cells #[.int .i64 p1.a, .int .i64 p1.b, .int .i64 p1.c, .int .i64 p1.d] 26 (0, 0)) := by rw [eY]; exact (bks ne_both_n22 (bks ne_both_n22 (bks ne_both_n22 (bks ne_both_n22 (bks ne_both_n22 (bks ne_both_n22 k_both))))))
                replace k_all : X53.heap[g_all]? = some (.cells #[.int .i64 p2.a, .int .i64 p2.b, .int .i64 p2.c, .int .i64 p2.d] 26 (0, 0)) := by rw [eY]; exact (bks ne_all_n22 (bks ne_all_n22 (bks ne_all_n22 (bks ne_all_n22 (bks ne_all_n22 (bks ne_all_n22 k_all))))))
                replace k_read : X53.heap[g_read]? = some (.cells #[.int .i64 2, .int .i64 x, .int .i64 y, .int .i64 0, .int .i64 0, .int .i64 0, .int .i64 0, .int .i64 0, .int .i64 0, .int .i64 0, .int .i64 0] 62 (0, 0)) := by rw [eY]; exact (bks ne_read_n22 (bks ne_read_n22 (bks ne_read_n22 (bks ne_read_n22 (bks ne_read_n22 (bks ne_read_n22 k_read))))))
                replace k_place : X53.heap[g_place]? = some (.cells #[.int .i64 3, .int .i64 p2.a, .int .i64 p2.b, .int .i64 0, .int .i64 0, .int .i64 0, .int .i64 0, .int .i64 0, .int .i64 0, .int .i64 0, .int .i64 0] 62 (0, 0)) := by rw [eY]; exact (bks ne_place_n22 (bks ne_place_n22 (bks ne_place_n22 (bks ne_place_n22 (bks ne_place_n22 (bks ne_place_n22 k_place))))))
                replace k_n77 : X53.heap[g51]? = some (.cells #[.int .i64 4, .int .i64 0, .int .i64 0, .int .i64 0, .int .i64 0, .int .i64 0, .int .i64 0, .int .i64 s.a, .int .i64 s.b, .int .i64 s.c, .int .i64 s.d, .int .i64 4, .int .i64 0, .int .i64 0, .int .i64 0, .int .i64 0, .int .i64 0, .int .i64 0, .int .i64 u.a, .int .i64 u.b, .int .i64 u.c, .int .i64 u.d, .int .i64 2, .int .i64 x, .int .i64 y, .int .i64 0, .int .i64 0, .int .i64 0, .int .i64 0, .int .i64 0, .int .i64 0, .int .i64 0, .int .i64 0, .int .i64 3, .int .i64 p2.a, .int .i64 p2.b, .int .i64 0, .int .i64 0, .int .i64 0, .int .i64 0, .int .i64 0, .int .i64 0, .int .i64 0, .int .i64 0] 62 (0, 0)) := by rw [eY]; exact (bks ne_n77_n22 (bks ne_n77_n22 (bks ne_n77_n22 (bks ne_n77_n22 (bks ne_n77_n22 (bks ne_n77_n22 k_n77))))))
                replace bw : Below w.heap.size w X53 := by rw [eY]; exact (bss lo_n22 (bss lo_n22 (bss lo_n22 (bss lo_n22 (bss lo_n22 (bss lo_n22 bw))))))
                replace k_n22 : X53.heap[g50]? = some (.cells #[.int .i64 a, .int .i64 b, .int .i64 c, .int .i64 d, .int .i64 (c - a), .slice A3 N c3] 29 (0, 0)) := by rw [eY]; exact q6s k_n22
                (try replace r1 := Rd.sized (W := X53) (Rd.sset na_r1 (Rd.sset na_r1 (Rd.sset na_r1 (Rd.sset na_r1 (Rd.sset na_r1 (Rd.sset na_r1 r1)))))) eY)
                (try replace r2 := Rd.sized (W := X53) (Rd.sset na_r2 (Rd.sset na_r2 (Rd.sset na_r2 (Rd.sset na_r2 (Rd.sset na_r2 (Rd.sset na_r2 r2)))))) eY)
                clear eY
                refine wpAnyH_done (by kernel_rfl) ?_ _
                go_wp2_with fail
                go_meet
                exact ⟨_, A1, c1, A2, c2, A3, c3, rfl, rfl, rfl, k_n22, k_r, k_s, k_u, k_q, k_both, k_all, k_read, k_place, r1, r2, bw⟩
            · go_simp
              refine hK.out _ _ ⟨cka hHeld.1, cka hHeld.2.1, cka hHeld.2.2.1, cka hHeld.2.2.2.1, cka hHeld.2.2.2.2.1, cka hHeld.2.2.2.2.2.1, cka hHeld.2.2.2.2.2.2.1, cka hHeld.2.2.2.2.2.2.2.1, cka hHeld.2.2.2.2.2.2.2.2.1, cka hHeld.2.2.2.2.2.2.2.2.2.1, cka hHeld.2.2.2.2.2.2.2.2.2.2.1, cka hHeld.2.2.2.2.2.2.2.2.2.2.2.1, cka hHeld.2.2.2.2.2.2.2.2.2.2.2.2.1, cka hHeld.2.2.2.2.2.2.2.2.2.2.2.2.2.1, cka hHeld.2.2.2.2.2.2.2.2.2.2.2.2.2.2.1, cka hHeld.2.2.2.2.2.2.2.2.2.2.2.2.2.2.2.1, cka hHeld.2.2.2.2.2.2.2.2.2.2.2.2.2.2.2.2.1, cka hHeld.2.2.2.2.2.2.2.2.2.2.2.2.2.2.2.2.2.1, cka hHeld.2.2.2.2.2.2.2.2.2.2.2.2.2.2.2.2.2.2.1, cka hHeld.2.2.2.2.2.2.2.2.2.2.2.2.2.2.2.2.2.2.2.1, cka hHeld.2.2.2.2.2.2.2.2.2.2.2.2.2.2.2.2.2.2.2.2.1, cka hHeld.2.2.2.2.2.2.2.2.2.2.2.2.2.2.2.2.2.2.2.2.2.1, cka hHeld.2.2.2.2.2.2.2.2.2.2.2.2.2.2.2.2.2.2.2.2.2.2.1, cka hHeld.2.2.2.2.2.2.2.2.2.2.2.2.2.2.2.2.2.2.2.2.2.2.2.1, cka hHeld.2.2.2.2.2.2.2.2.2.2.2.2.2.2.2.2.2.2.2.2.2.2.2.2.1, cka hHeld.2.2.2.2.2.2.2.2.2.2.2.2.2.2.2.2.2.2.2.2.2.2.2.2.2.1, cka hHeld.2.2.2.2.2.2.2.2.2.2.2.2.2.2.2.2.2.2.2.2.2.2.2.2.2.2.1, cka hHeld.2.2.2.2.2.2.2.2.2.2.2.2.2.2.2.2.2.2.2.2.2.2.2.2.2.2.2.1, cka hHeld.2.2.2.2.2.2.2.2.2.2.2.2.2.2.2.2.2.2.2.2.2.2.2.2.2.2.2.2.1, cka hHeld.2.2.2.2.2.2.2.2.2.2.2.2.2.2.2.2.2.2.2.2.2.2.2.2.2.2.2.2.2.1, cka hHeld.2.2.2.2.2.2.2.2.2.2.2.2.2.2.2.2.2.2.2.2.2.2.2.2.2.2.2.2.2.2.1, cka hHeld.2.2.2.2.2.2.2.2.2.2.2.2.2.2.2.2.2.2.2.2.2.2.2.2.2.2.2.2.2.2.2.1, cka hHeld.2.2.2.2.2.2.2.2.2.2.2.2.2.2.2.2.2.2.2.2.2.2.2.2.2.2.2.2.2.2.2.2.1, cka hHeld.2.2.2.2.2.2.2.2.2.2.2.2.2.2.2.2.2.2.2.2.2.2.2.2.2.2.2.2.2.2.2.2.2⟩ (fun hHeld => ?_)
              clear hK K
              (try simp only [List.setIfInBounds_toArray, List.set_cons_zero, List.set_cons_succ])
              obtain ⟨X54, g54, eY, eg⟩ : ∃ Y g, Y = X41.alloc (.cells #[.int .i64 0, .int .i64 0, .int .i64 0, .int .i64 0, .int .i64 0, .slice none 0 0] 29) ∧ g = X41.heap.size := ⟨_, _, rfl, rfl⟩
              rw [← eY, ← eg]
              rw [← eY] at hHeld
              have bc : Below X41.heap.size X41 X54 := by rw [eY]; exact (Below.refl _ _).alloc (Nat.le_refl _) _
              have k_n22 : X54.heap[g54]? = some (.cells #[.int .i64 0, .int .i64 0, .int .i64 0, .int .i64 0, .int .i64 0, .slice none 0 0] 29 (0, 0)) := by rw [eY, eg]; exact heap_alloc_new X41 _
              have lo_n22 : w.heap.size ≤ g54 := by rw [eg]; exact bw.size
              have ne_r_n22 : ¬ w.heap.size = g54 := ne_new k_r eg
              have ne_s_n22 : ¬ w.heap.size + 1 = g54 := ne_new k_s eg
              have ne_u_n22 : ¬ w.heap.size + 2 = g54 := ne_new k_u eg
              have ne_q_n22 : ¬ g_q = g54 := ne_new k_q eg
              have ne_both_n22 : ¬ g_both = g54 := ne_new k_both eg
              have ne_all_n22 : ¬ g_all = g54 := ne_new k_all eg
              have ne_read_n22 : ¬ g_read = g54 := ne_new k_read eg
              have ne_place_n22 : ¬ g_place = g54 := ne_new k_place eg
              (try have na_r1 := Rd.ne_new r1 eg)
              (try have na_r2 := Rd.ne_new r2 eg)
              replace k_r := bk bc k_r
              replace k_s := bk bc k_s
              replace k_u := bk bc k_u
              replace k_q := bk bc k_q
              replace k_both := bk bc k_both
              replace k_all := bk bc k_all
              replace k_read := bk bc k_read
              replace k_place := bk bc k_place
              replace bw := bst bc bw
              (try replace r1 := (r1.below bc).more bc.size)
              (try replace r2 := (r2.below bc).more bc.size)
              clear bc eY eg
              refine wpAnyH_ready (rs := [6]) (by kernel_rfl) (by simp) ?_
              refine (AllReadyH.cons rfl (fun K hK => ?_) AllReadyH.nil)
              go_simp
              refine (toRect4 u.a u.b u.c u.d _).mono ?_
              rintro e X55 ⟨rfl, bc⟩
              refine hK.out _ _ ⟨ck bc hHeld.1, ck bc hHeld.2.1, ck bc hHeld.2.2.1, ck bc hHeld.2.2.2.1, ck bc hHeld.2.2.2.2.1, ck bc hHeld.2.2.2.2.2.1, ck bc hHeld.2.2.2.2.2.2.1, ck bc hHeld.2.2.2.2.2.2.2.1, ck bc hHeld.2.2.2.2.2.2.2.2.1, ck bc hHeld.2.2.2.2.2.2.2.2.2.1, ck bc hHeld.2.2.2.2.2.2.2.2.2.2.1, ck bc hHeld.2.2.2.2.2.2.2.2.2.2.2.1, ck bc hHeld.2.2.2.2.2.2.2.2.2.2.2.2.1, ck bc hHeld.2.2.2.2.2.2.2.2.2.2.2.2.2.1, ck bc hHeld.2.2.2.2.2.2.2.2.2.2.2.2.2.2.1, ck bc hHeld.2.2.2.2.2.2.2.2.2.2.2.2.2.2.2.1, ck bc hHeld.2.2.2.2.2.2.2.2.2.2.2.2.2.2.2.2.1, ck bc hHeld.2.2.2.2.2.2.2.2.2.2.2.2.2.2.2.2.2.1, ck bc hHeld.2.2.2.2.2.2.2.2.2.2.2.2.2.2.2.2.2.2.1, ck bc hHeld.2.2.2.2.2.2.2.2.2.2.2.2.2.2.2.2.2.2.2.1, ck bc hHeld.2.2.2.2.2.2.2.2.2.2.2.2.2.2.2.2.2.2.2.2.1, ck bc hHeld.2.2.2.2.2.2.2.2.2.2.2.2.2.2.2.2.2.2.2.2.2.1, ck bc hHeld.2.2.2.2.2.2.2.2.2.2.2.2.2.2.2.2.2.2.2.2.2.2.1, ck bc hHeld.2.2.2.2.2.2.2.2.2.2.2.2.2.2.2.2.2.2.2.2.2.2.2.1, ck bc hHeld.2.2.2.2.2.2.2.2.2.2.2.2.2.2.2.2.2.2.2.2.2.2.2.2.1, ck bc hHeld.2.2.2.2.2.2.2.2.2.2.2.2.2.2.2.2.2.2.2.2.2.2.2.2.2.1, ck bc hHeld.2.2.2.2.2.2.2.2.2.2.2.2.2.2.2.2.2.2.2.2.2.2.2.2.2.2.1, ck bc hHeld.2.2.2.2.2.2.2.2.2.2.2.2.2.2.2.2.2.2.2.2.2.2.2.2.2.2.2.1, ck bc hHeld.2.2.2.2.2.2.2.2.2.2.2.2.2.2.2.2.2.2.2.2.2.2.2.2.2.2.2.2.1, ck bc hHeld.2.2.2.2.2.2.2.2.2.2.2.2.2.2.2.2.2.2.2.2.2.2.2.2.2.2.2.2.2.1, ck bc hHeld.2.2.2.2.2.2.2.2.2.2.2.2.2.2.2.2.2.2.2.2.2.2.2.2.2.2.2.2.2.2.1, ck bc hHeld.2.2.2.2.2.2.2.2.2.2.2.2.2.2.2.2.2.2.2.2.2.2.2.2.2.2.2.2.2.2.2.1, ck bc hHeld.2.2.2.2.2.2.2.2.2.2.2.2.2.2.2.2.2.2.2.2.2.2.2.2.2.2.2.2.2.2.2.2.1, ck bc hHeld.2.2.2.2.2.2.2.2.2.2.2.2.2.2.2.2.2.2.2.2.2.2.2.2.2.2.2.2.2.2.2.2.2⟩ (fun hHeld => ?_)
              clear hK K
              (try simp only [List.setIfInBounds_toArray, List.set_cons_zero, List.set_cons_succ])
              replace k_r := bk bc k_r
              replace k_s := bk bc k_s
              replace k_u := bk bc k_u
              replace k_q := bk bc k_q
              replace k_both := bk bc k_both
              replace k_all := bk bc k_all
              replace k_read := bk bc k_read
              replace k_place := bk bc k_place
              replace k_n22 := bk bc k_n22
              replace bw := bst bc bw
              (try replace r1 := (r1.below bc).more bc.size)
              (try replace r2 := (r2.below bc).more bc.size)
              clear bc
              refine takx (i := 7) (D := 74) (v := .agg #[.int .i64 4, .int .i64 0, .int .i64 0, .int .i64 0, .int .i64 0, .int .i64 0, .int .i64 0, .int .i64 u.a, .int .i64 u.b, .int .i64 u.c, .int .i64 u.d]) rfl rfl (by kernel_rfl) (by kernel_rfl) (by kernel_rfl) (fun _ _ _ h => h) (Or.inl ⟨by rfl, fun W hSw => by (try dsimp only at hSw); go_simp⟩) (by assumption) ?_
              (try simp only [List.setIfInBounds_toArray, List.set_cons_zero, List.set_cons_succ])
              refine wpAnyH_ready (rs := [10]) (by kernel_rfl) (by simp) ?_
              refine (AllReadyH.cons rfl (fun K hK => ?_) AllReadyH.nil)
              go_simp
              refine hK.out _ _ ⟨cka hHeld.1, cka hHeld.2.1, cka hHeld.2.2.1, cka hHeld.2.2.2.1, cka hHeld.2.2.2.2.1, cka hHeld.2.2.2.2.2.1, cka hHeld.2.2.2.2.2.2.1, cka hHeld.2.2.2.2.2.2.2.1, cka hHeld.2.2.2.2.2.2.2.2.1, cka hHeld.2.2.2.2.2.2.2.2.2.1, cka hHeld.2.2.2.2.2.2.2.2.2.2.1, cka hHeld.2.2.2.2.2.2.2.2.2.2.2.1, cka hHeld.2.2.2.2.2.2.2.2.2.2.2.2.1, cka hHeld.2.2.2.2.2.2.2.2.2.2.2.2.2.1, cka hHeld.2.2.2.2.2.2.2.2.2.2.2.2.2.2.1, cka hHeld.2.2.2.2.2.2.2.2.2.2.2.2.2.2.2.1, cka hHeld.2.2.2.2.2.2.2.2.2.2.2.2.2.2.2.2.1, cka hHeld.2.2.2.2.2.2.2.2.2.2.2.2.2.2.2.2.2.1, cka hHeld.2.2.2.2.2.2.2.2.2.2.2.2.2.2.2.2.2.2.1, cka hHeld.2.2.2.2.2.2.2.2.2.2.2.2.2.2.2.2.2.2.2.1, cka hHeld.2.2.2.2.2.2.2.2.2.2.2.2.2.2.2.2.2.2.2.2.1, cka hHeld.2.2.2.2.2.2.2.2.2.2.2.2.2.2.2.2.2.2.2.2.2.1, cka hHeld.2.2.2.2.2.2.2.2.2.2.2.2.2.2.2.2.2.2.2.2.2.2.1, cka hHeld.2.2.2.2.2.2.2.2.2.2.2.2.2.2.2.2.2.2.2.2.2.2.2.1, cka hHeld.2.2.2.2.2.2.2.2.2.2.2.2.2.2.2.2.2.2.2.2.2.2.2.2.1, cka hHeld.2.2.2.2.2.2.2.2.2.2.2.2.2.2.2.2.2.2.2.2.2.2.2.2.2.1, cka hHeld.2.2.2.2.2.2.2.2.2.2.2.2.2.2.2.2.2.2.2.2.2.2.2.2.2.2.1, cka hHeld.2.2.2.2.2.2.2.2.2.2.2.2.2.2.2.2.2.2.2.2.2.2.2.2.2.2.2.1, cka hHeld.2.2.2.2.2.2.2.2.2.2.2.2.2.2.2.2.2.2.2.2.2.2.2.2.2.2.2.2.1, cka hHeld.2.2.2.2.2.2.2.2.2.2.2.2.2.2.2.2.2.2.2.2.2.2.2.2.2.2.2.2.2.1, cka hHeld.2.2.2.2.2.2.2.2.2.2.2.2.2.2.2.2.2.2.2.2.2.2.2.2.2.2.2.2.2.2.1, cka hHeld.2.2.2.2.2.2.2.2.2.2.2.2.2.2.2.2.2.2.2.2.2.2.2.2.2.2.2.2.2.2.2.1, cka hHeld.2.2.2.2.2.2.2.2.2.2.2.2.2.2.2.2.2.2.2.2.2.2.2.2.2.2.2.2.2.2.2.2.1, cka hHeld.2.2.2.2.2.2.2.2.2.2.2.2.2.2.2.2.2.2.2.2.2.2.2.2.2.2.2.2.2.2.2.2.2⟩ (fun hHeld => ?_)
              clear hK K
              (try simp only [List.setIfInBounds_toArray, List.set_cons_zero, List.set_cons_succ])
              obtain ⟨X56, g56, eY, eg⟩ : ∃ Y g, Y = X55.alloc (.cells #[.int .i64 4, .int .i64 0, .int .i64 0, .int .i64 0, .int .i64 0, .int .i64 0, .int .i64 0, .int .i64 s.a, .int .i64 s.b, .int .i64 s.c, .int .i64 s.d, .int .i64 4, .int .i64 0, .int .i64 0, .int .i64 0, .int .i64 0, .int .i64 0, .int .i64 0, .int .i64 u.a, .int .i64 u.b, .int .i64 u.c, .int .i64 u.d, .int .i64 2, .int .i64 x, .int .i64 y, .int .i64 0, .int .i64 0, .int .i64 0, .int .i64 0, .int .i64 0, .int .i64 0, .int .i64 0, .int .i64 0, .int .i64 3, .int .i64 p2.a, .int .i64 p2.b, .int .i64 0, .int .i64 0, .int .i64 0, .int .i64 0, .int .i64 0, .int .i64 0, .int .i64 0, .int .i64 0] 62) ∧ g = X55.heap.size := ⟨_, _, rfl, rfl⟩
              rw [← eY, ← eg]
              rw [← eY] at hHeld
              have bc : Below X55.heap.size X55 X56 := by rw [eY]; exact (Below.refl _ _).alloc (Nat.le_refl _) _
              have k_n77 : X56.heap[g56]? = some (.cells #[.int .i64 4, .int .i64 0, .int .i64 0, .int .i64 0, .int .i64 0, .int .i64 0, .int .i64 0, .int .i64 s.a, .int .i64 s.b, .int .i64 s.c, .int .i64 s.d, .int .i64 4, .int .i64 0, .int .i64 0, .int .i64 0, .int .i64 0, .int .i64 0, .int .i64 0, .int .i64 u.a, .int .i64 u.b, .int .i64 u.c, .int .i64 u.d, .int .i64 2, .int .i64 x, .int .i64 y, .int .i64 0, .int .i64 0, .int .i64 0, .int .i64 0, .int .i64 0, .int .i64 0, .int .i64 0, .int .i64 0, .int .i64 3, .int .i64 p2.a, .int .i64 p2.b, .int .i64 0, .int .i64 0, .int .i64 0, .int .i64 0, .int .i64 0, .int .i64 0, .int .i64 0, .int .i64 0] 62 (0, 0)) := by rw [eY, eg]; exact heap_alloc_new X55 _
              have ne_n77_n22 : ¬ g56 = g54 := fun e => ne_new k_n22 eg e.symm
              replace k_r := bk bc k_r
              replace k_s := bk bc k_s
              replace k_u := bk bc k_u
              replace k_q := bk bc k_q
              replace k_both := bk bc k_both
              replace k_all := bk bc k_all
              replace k_read := bk bc k_read
              replace k_place := bk bc k_place
              replace k_n22 := bk bc k_n22
              replace bw := bst bc bw
              (try replace r1 := (r1.below bc).more bc.size)
              (try replace r2 := (r2.below bc).more bc.size)
              clear bc eY eg
              refine wpAnyH_ready (rs := [11]) (by kernel_rfl) (by simp) ?_
              refine (AllReadyH.cons rfl (fun K hK => ?_) AllReadyH.nil)
              go_simp
              refine ((grayRun_any a b c d N h3 h4 h5 h6 HN.out n cp Z zs 4 4 _ [⟨4, 0, 0, ⟨0, 0, 0, 0⟩, s⟩, ⟨4, 0, 0, ⟨0, 0, 0, 0⟩, u⟩, ⟨2, x, y, ⟨0, 0, 0, 0⟩, ⟨0, 0, 0, 0⟩⟩, ⟨3, p2.a, p2.b, ⟨0, 0, 0, 0⟩, ⟨0, 0, 0, 0⟩⟩] _ ((HR.out.below bw).more bw.size) (RdSteps.of_block (ss := [⟨4, 0, 0, ⟨0, 0, 0, 0⟩, s⟩, ⟨4, 0, 0, ⟨0, 0, 0, 0⟩, u⟩, ⟨2, x, y, ⟨0, 0, 0, 0⟩, ⟨0, 0, 0, 0⟩⟩, ⟨3, p2.a, p2.b, ⟨0, 0, 0, 0⟩, ⟨0, 0, 0, 0⟩⟩]) (m := 4) k_n77 rfl rfl (by decide) OK1.out)).mono (fun _ _ h => h.offs (k := 1) (m := 1) (cs := [rdAt (byt N zs) a b c d x y]) (os := [0]) E1.out.1 rfl E1.out.2.1 E1.out.2.2 rfl)).mono ?_
              rintro e X57 ⟨A1, c1, A2, c2, A3, c3, rfl, r1, r2, lo1, lo2, bc⟩
              refine hK.out _ _ ⟨ck bc hHeld.1, ck bc hHeld.2.1, ck bc hHeld.2.2.1, ck bc hHeld.2.2.2.1, ck bc hHeld.2.2.2.2.1, ck bc hHeld.2.2.2.2.2.1, ck bc hHeld.2.2.2.2.2.2.1, ck bc hHeld.2.2.2.2.2.2.2.1, ck bc hHeld.2.2.2.2.2.2.2.2.1, ck bc hHeld.2.2.2.2.2.2.2.2.2.1, ck bc hHeld.2.2.2.2.2.2.2.2.2.2.1, ck bc hHeld.2.2.2.2.2.2.2.2.2.2.2.1, ck bc hHeld.2.2.2.2.2.2.2.2.2.2.2.2.1, ck bc hHeld.2.2.2.2.2.2.2.2.2.2.2.2.2.1, ck bc hHeld.2.2.2.2.2.2.2.2.2.2.2.2.2.2.1, ck bc hHeld.2.2.2.2.2.2.2.2.2.2.2.2.2.2.2.1, ck bc hHeld.2.2.2.2.2.2.2.2.2.2.2.2.2.2.2.2.1, ck bc hHeld.2.2.2.2.2.2.2.2.2.2.2.2.2.2.2.2.2.1, ck bc hHeld.2.2.2.2.2.2.2.2.2.2.2.2.2.2.2.2.2.2.1, ck bc hHeld.2.2.2.2.2.2.2.2.2.2.2.2.2.2.2.2.2.2.2.1, ck bc hHeld.2.2.2.2.2.2.2.2.2.2.2.2.2.2.2.2.2.2.2.2.1, ck bc hHeld.2.2.2.2.2.2.2.2.2.2.2.2.2.2.2.2.2.2.2.2.2.1, ck bc hHeld.2.2.2.2.2.2.2.2.2.2.2.2.2.2.2.2.2.2.2.2.2.2.1, ck bc hHeld.2.2.2.2.2.2.2.2.2.2.2.2.2.2.2.2.2.2.2.2.2.2.2.1, ck bc hHeld.2.2.2.2.2.2.2.2.2.2.2.2.2.2.2.2.2.2.2.2.2.2.2.2.1, ck bc hHeld.2.2.2.2.2.2.2.2.2.2.2.2.2.2.2.2.2.2.2.2.2.2.2.2.2.1, ck bc hHeld.2.2.2.2.2.2.2.2.2.2.2.2.2.2.2.2.2.2.2.2.2.2.2.2.2.2.1, ck bc hHeld.2.2.2.2.2.2.2.2.2.2.2.2.2.2.2.2.2.2.2.2.2.2.2.2.2.2.2.1, ck bc hHeld.2.2.2.2.2.2.2.2.2.2.2.2.2.2.2.2.2.2.2.2.2.2.2.2.2.2.2.2.1, ck bc hHeld.2.2.2.2.2.2.2.2.2.2.2.2.2.2.2.2.2.2.2.2.2.2.2.2.2.2.2.2.2.1, ck bc hHeld.2.2.2.2.2.2.2.2.2.2.2.2.2.2.2.2.2.2.2.2.2.2.2.2.2.2.2.2.2.2.1, ck bc hHeld.2.2.2.2.2.2.2.2.2.2.2.2.2.2.2.2.2.2.2.2.2.2.2.2.2.2.2.2.2.2.2.1, ck bc hHeld.2.2.2.2.2.2.2.2.2.2.2.2.2.2.2.2.2.2.2.2.2.2.2.2.2.2.2.2.2.2.2.2.1, ck bc hHeld.2.2.2.2.2.2.2.2.2.2.2.2.2.2.2.2.2.2.2.2.2.2.2.2.2.2.2.2.2.2.2.2.2⟩ (fun hHeld => ?_)
              clear hK K
              (try simp only [List.setIfInBounds_toArray, List.set_cons_zero, List.set_cons_succ])
              have na_r1 := lo_ne (n := 1) lo1 k_n22
              have na_r2 := lo_ne (n := 1) lo2 k_n22
              replace k_r := bk bc k_r
              replace k_s := bk bc k_s
              replace k_u := bk bc k_u
              replace k_q := bk bc k_q
              replace k_both := bk bc k_both
              replace k_all := bk bc k_all
              replace k_read := bk bc k_read
              replace k_place := bk bc k_place
              replace k_n22 := bk bc k_n22
              replace k_n77 := bk bc k_n77
              replace bw := bst bc bw
              (try replace r1 := (r1.below bc).more bc.size)
              (try replace r2 := (r2.below bc).more bc.size)
              clear bc
              refine takx (i := 12) (D := 66) (v := .tuple #[.slice A1 1 c1, .slice A2 1 c2, .agg #[.int .i64 a, .int .i64 b, .int .i64 c, .int .i64 d, .int .i64 (c - a), .slice A3 N c3]]) rfl rfl (by kernel_rfl) (by kernel_rfl) (by kernel_rfl) (fun _ _ _ h => h) (Or.inl ⟨by rfl, fun W hSw => by (try dsimp only at hSw); go_simp⟩) (by assumption) ?_
              (try simp only [List.setIfInBounds_toArray, List.set_cons_zero, List.set_cons_succ])
              refine takx (i := 13) (D := 79) (v := .slice A1 1 c1) rfl rfl (by kernel_rfl) (by kernel_rfl) (by kernel_rfl) (fun _ _ _ h => h) (Or.inl ⟨by rfl, fun W hSw => by (try dsimp only at hSw); go_simp⟩) (by assumption) ?_
              (try simp only [List.setIfInBounds_toArray, List.set_cons_zero, List.set_cons_succ])
              refine takx (i := 14) (D := 80) (v := .slice A2 1 c2) rfl rfl (by kernel_rfl) (by kernel_rfl) (by kernel_rfl) (fun _ _ _ h => h) (Or.inl ⟨by rfl, fun W hSw => by (try dsimp only at hSw); go_simp⟩) (by assumption) ?_
              (try simp only [List.setIfInBounds_toArray, List.set_cons_zero, List.set_cons_succ])
              refine takx (i := 15) (D := 81) (v := .agg #[.int .i64 a, .int .i64 b, .int .i64 c, .int .i64 d, .int .i64 (c - a), .slice A3 N c3]) rfl rfl (by kernel_rfl) (by kernel_rfl) (by kernel_rfl) (fun _ _ _ h => h) (Or.inl ⟨by rfl, fun W hSw => by (try dsimp only at hSw); go_simp⟩) (by assumption) ?_
              (try simp only [List.setIfInBounds_toArray, List.set_cons_zero, List.set_cons_succ])
              refine takx (i := 17) (D := 20) (v := .slice A1 1 c1) rfl rfl (by kernel_rfl) (by kernel_rfl) (by kernel_rfl) (fun _ _ _ h => h) (Or.inl ⟨by rfl, fun W hSw => by (try dsimp only at hSw); go_simp⟩) (by assumption) ?_
              (try simp only [List.setIfInBounds_toArray, List.set_cons_zero, List.set_cons_succ])
              refine takx (i := 18) (D := 21) (v := .slice A2 1 c2) rfl rfl (by kernel_rfl) (by kernel_rfl) (by kernel_rfl) (fun _ _ _ h => h) (Or.inl ⟨by rfl, fun W hSw => by (try dsimp only at hSw); go_simp⟩) (by assumption) ?_
              (try simp only [List.setIfInBounds_toArray, List.set_cons_zero, List.set_cons_succ])
              refine wpAnyH_ready (rs := [19]) (by kernel_rfl) (by simp) ?_
              refine (AllReadyH.cons rfl (fun K hK => ?_) AllReadyH.nil)
              have qq := q6c k_n22
              go_simp
              clear qq
              refine hK.out _ _ ⟨(cks ne_q_n22 (cks ne_q_n22 (cks ne_q_n22 (cks ne_q_n22 (cks ne_q_n22 (cks ne_q_n22 hHeld.1)))))), (cks ne_q_n22 (cks ne_q_n22 (cks ne_q_n22 (cks ne_q_n22 (cks ne_q_n22 (cks ne_q_n22 hHeld.2.1)))))), (cks ne_q_n22 (cks ne_q_n22 (cks ne_q_n22 (cks ne_q_n22 (cks ne_q_n22 (cks ne_q_n22 hHeld.2.2.1)))))), (cks ne_q_n22 (cks ne_q_n22 (cks ne_q_n22 (cks ne_q_n22 (cks ne_q_n22 (cks ne_q_n22 hHeld.2.2.2.1)))))), (cks ne_s_n22 (cks ne_s_n22 (cks ne_s_n22 (cks ne_s_n22 (cks ne_s_n22 (cks ne_s_n22 hHeld.2.2.2.2.1)))))), (cks ne_s_n22 (cks ne_s_n22 (cks ne_s_n22 (cks ne_s_n22 (cks ne_s_n22 (cks ne_s_n22 hHeld.2.2.2.2.2.1)))))), (cks ne_s_n22 (cks ne_s_n22 (cks ne_s_n22 (cks ne_s_n22 (cks ne_s_n22 (cks ne_s_n22 hHeld.2.2.2.2.2.2.1)))))), (cks ne_s_n22 (cks ne_s_n22 (cks ne_s_n22 (cks ne_s_n22 (cks ne_s_n22 (cks ne_s_n22 hHeld.2.2.2.2.2.2.2.1)))))), (cks ne_u_n22 (cks ne_u_n22 (cks ne_u_n22 (cks ne_u_n22 (cks ne_u_n22 (cks ne_u_n22 hHeld.2.2.2.2.2.2.2.2.1)))))), (cks ne_u_n22 (cks ne_u_n22 (cks ne_u_n22 (cks ne_u_n22 (cks ne_u_n22 (cks ne_u_n22 hHeld.2.2.2.2.2.2.2.2.2.1)))))), (cks ne_u_n22 (cks ne_u_n22 (cks ne_u_n22 (cks ne_u_n22 (cks ne_u_n22 (cks ne_u_n22 hHeld.2.2.2.2.2.2.2.2.2.2.1)))))), (cks ne_u_n22 (cks ne_u_n22 (cks ne_u_n22 (cks ne_u_n22 (cks ne_u_n22 (cks ne_u_n22 hHeld.2.2.2.2.2.2.2.2.2.2.2.1)))))), (cks ne_read_n22 (cks ne_read_n22 (cks ne_read_n22 (cks ne_read_n22 (cks ne_read_n22 (cks ne_read_n22 hHeld.2.2.2.2.2.2.2.2.2.2.2.2.1)))))), (cks ne_read_n22 (cks ne_read_n22 (cks ne_read_n22 (cks ne_read_n22 (cks ne_read_n22 (cks ne_read_n22 hHeld.2.2.2.2.2.2.2.2.2.2.2.2.2.1)))))), (cks ne_read_n22 (cks ne_read_n22 (cks ne_read_n22 (cks ne_read_n22 (cks ne_read_n22 (cks ne_read_n22 hHeld.2.2.2.2.2.2.2.2.2.2.2.2.2.2.1)))))), (cks ne_read_n22 (cks ne_read_n22 (cks ne_read_n22 (cks ne_read_n22 (cks ne_read_n22 (cks ne_read_n22 hHeld.2.2.2.2.2.2.2.2.2.2.2.2.2.2.2.1)))))), (cks ne_read_n22 (cks ne_read_n22 (cks ne_read_n22 (cks ne_read_n22 (cks ne_read_n22 (cks ne_read_n22 hHeld.2.2.2.2.2.2.2.2.2.2.2.2.2.2.2.2.1)))))), (cks ne_read_n22 (cks ne_read_n22 (cks ne_read_n22 (cks ne_read_n22 (cks ne_read_n22 (cks ne_read_n22 hHeld.2.2.2.2.2.2.2.2.2.2.2.2.2.2.2.2.2.1)))))), (cks ne_read_n22 (cks ne_read_n22 (cks ne_read_n22 (cks ne_read_n22 (cks ne_read_n22 (cks ne_read_n22 hHeld.2.2.2.2.2.2.2.2.2.2.2.2.2.2.2.2.2.2.1)))))), (cks ne_read_n22 (cks ne_read_n22 (cks ne_read_n22 (cks ne_read_n22 (cks ne_read_n22 (cks ne_read_n22 hHeld.2.2.2.2.2.2.2.2.2.2.2.2.2.2.2.2.2.2.2.1)))))), (cks ne_read_n22 (cks ne_read_n22 (cks ne_read_n22 (cks ne_read_n22 (cks ne_read_n22 (cks ne_read_n22 hHeld.2.2.2.2.2.2.2.2.2.2.2.2.2.2.2.2.2.2.2.2.1)))))), (cks ne_read_n22 (cks ne_read_n22 (cks ne_read_n22 (cks ne_read_n22 (cks ne_read_n22 (cks ne_read_n22 hHeld.2.2.2.2.2.2.2.2.2.2.2.2.2.2.2.2.2.2.2.2.2.1)))))), (cks ne_read_n22 (cks ne_read_n22 (cks ne_read_n22 (cks ne_read_n22 (cks ne_read_n22 (cks ne_read_n22 hHeld.2.2.2.2.2.2.2.2.2.2.2.2.2.2.2.2.2.2.2.2.2.2.1)))))), (cks ne_place_n22 (cks ne_place_n22 (cks ne_place_n22 (cks ne_place_n22 (cks ne_place_n22 (cks ne_place_n22 hHeld.2.2.2.2.2.2.2.2.2.2.2.2.2.2.2.2.2.2.2.2.2.2.2.1)))))), (cks ne_place_n22 (cks ne_place_n22 (cks ne_place_n22 (cks ne_place_n22 (cks ne_place_n22 (cks ne_place_n22 hHeld.2.2.2.2.2.2.2.2.2.2.2.2.2.2.2.2.2.2.2.2.2.2.2.2.1)))))), (cks ne_place_n22 (cks ne_place_n22 (cks ne_place_n22 (cks ne_place_n22 (cks ne_place_n22 (cks ne_place_n22 hHeld.2.2.2.2.2.2.2.2.2.2.2.2.2.2.2.2.2.2.2.2.2.2.2.2.2.1)))))), (cks ne_place_n22 (cks ne_place_n22 (cks ne_place_n22 (cks ne_place_n22 (cks ne_place_n22 (cks ne_place_n22 hHeld.2.2.2.2.2.2.2.2.2.2.2.2.2.2.2.2.2.2.2.2.2.2.2.2.2.2.1)))))), (cks ne_place_n22 (cks ne_place_n22 (cks ne_place_n22 (cks ne_place_n22 (cks ne_place_n22 (cks ne_place_n22 hHeld.2.2.2.2.2.2.2.2.2.2.2.2.2.2.2.2.2.2.2.2.2.2.2.2.2.2.2.1)))))), (cks ne_place_n22 (cks ne_place_n22 (cks ne_place_n22 (cks ne_place_n22 (cks ne_place_n22 (cks ne_place_n22 hHeld.2.2.2.2.2.2.2.2.2.2.2.2.2.2.2.2.2.2.2.2.2.2.2.2.2.2.2.2.1)))))), (cks ne_place_n22 (cks ne_place_n22 (cks ne_place_n22 (cks ne_place_n22 (cks ne_place_n22 (cks ne_place_n22 hHeld.2.2.2.2.2.2.2.2.2.2.2.2.2.2.2.2.2.2.2.2.2.2.2.2.2.2.2.2.2.1)))))), (cks ne_place_n22 (cks ne_place_n22 (cks ne_place_n22 (cks ne_place_n22 (cks ne_place_n22 (cks ne_place_n22 hHeld.2.2.2.2.2.2.2.2.2.2.2.2.2.2.2.2.2.2.2.2.2.2.2.2.2.2.2.2.2.2.1)))))), (cks ne_place_n22 (cks ne_place_n22 (cks ne_place_n22 (cks ne_place_n22 (cks ne_place_n22 (cks ne_place_n22 hHeld.2.2.2.2.2.2.2.2.2.2.2.2.2.2.2.2.2.2.2.2.2.2.2.2.2.2.2.2.2.2.2.1)))))), (cks ne_place_n22 (cks ne_place_n22 (cks ne_place_n22 (cks ne_place_n22 (cks ne_place_n22 (cks ne_place_n22 hHeld.2.2.2.2.2.2.2.2.2.2.2.2.2.2.2.2.2.2.2.2.2.2.2.2.2.2.2.2.2.2.2.2.1)))))), (cks ne_place_n22 (cks ne_place_n22 (cks ne_place_n22 (cks ne_place_n22 (cks ne_place_n22 (cks ne_place_n22 hHeld.2.2.2.2.2.2.2.2.2.2.2.2.2.2.2.2.2.2.2.2.2.2.2.2.2.2.2.2.2.2.2.2.2))))))⟩ (fun hHeld => ?_)
              clear hK K
              (try simp only [List.setIfInBounds_toArray, List.set_cons_zero, List.set_cons_succ])
              obtain ⟨X58, eY⟩ : ∃ Y, Y = ((((((X57.setCell ⟨g54, 0, none⟩ (.int .i64 a)).setCell ⟨g54, 1, none⟩ (.int .i64 b)).setCell ⟨g54, 2, none⟩ (.int .i64 c)).setCell ⟨g54, 3, none⟩ (.int .i64 d)).setCell ⟨g54, 4, none⟩ (.int .i64 (c - a))).setCell ⟨g54, 5, none⟩ (.slice A3 N c3)) := ⟨_, rfl⟩
              rw [← eY] at hHeld ⊢
              replace k_r : X58.heap[w.heap.size]? = some (.cells #[.int .i64 a, .int .i64 b, .int .i64 c, .int .i64 d] 23 (0, 0)) := by rw [eY]; exact (bks ne_r_n22 (bks ne_r_n22 (bks ne_r_n22 (bks ne_r_n22 (bks ne_r_n22 (bks ne_r_n22 k_r))))))
              replace k_s : X58.heap[w.heap.size + 1]? = some (.cells #[.int .i64 s.a, .int .i64 s.b, .int .i64 s.c, .int .i64 s.d] 23 (0, 0)) := by rw [eY]; exact (bks ne_s_n22 (bks ne_s_n22 (bks ne_s_n22 (bks ne_s_n22 (bks ne_s_n22 (bks ne_s_n22 k_s))))))
              replace k_u : X58.heap[w.heap.size + 2]? = some (.cells #[.int .i64 u.a, .int .i64 u.b, .int .i64 u.c, .int .i64 u.d] 23 (0, 0)) := by rw [eY]; exact (bks ne_u_n22 (bks ne_u_n22 (bks ne_u_n22 (bks ne_u_n22 (bks ne_u_n22 (bks ne_u_n22 k_u))))))
              replace k_q : X58.heap[g_q]? = some (.cells #[.int .i64 a, .int .i64 b, .int .i64 c, .int .i64 d] 26 (0, 0)) := by rw [eY]; exact (bks ne_q_n22 (bks ne_q_n22 (bks ne_q_n22 (bks ne_q_n22 (bks ne_q_n22 (bks ne_q_n22 k_q))))))
              replace k_both : X58.heap[g_both]? = some (.cells #[.int .i64 p1.a, .int .i64 p1.b, .int .i64 p1.c, .int .i64 p1.d] 26 (0, 0)) := by rw [eY]; exact (bks ne_both_n22 (bks ne_both_n22 (bks ne_both_n22 (bks ne_both_n22 (bks ne_both_n22 (bks ne_both_n22 k_both))))))
              replace k_all : X58.heap[g_all]? = some (.cells #[.int .i64 p2.a, .int .i64 p2.b, .int .i64 p2.c, .int .i64 p2.d] 26 (0, 0)) := by rw [eY]; exact (bks ne_all_n22 (bks ne_all_n22 (bks ne_all_n22 (bks ne_all_n22 (bks ne_all_n22 (bks ne_all_n22 k_all))))))
              replace k_read : X58.heap[g_read]? = some (.cells #[.int .i64 2, .int .i64 x, .int .i64 y, .int .i64 0, .int .i64 0, .int .i64 0, .int .i64 0, .int .i64 0, .int .i64 0, .int .i64 0, .int .i64 0] 62 (0, 0)) := by rw [eY]; exact (bks ne_read_n22 (bks ne_read_n22 (bks ne_read_n22 (bks ne_read_n22 (bks ne_read_n22 (bks ne_read_n22 k_read))))))
              replace k_place : X58.heap[g_place]? = some (.cells #[.int .i64 3, .int .i64 p2.a, .int .i64 p2.b, .int .i64 0, .int .i64 0, .int .i64 0, .int .i64 0, .int .i64 0, .int .i64 0, .int .i64 0, .int .i64 0] 62 (0, 0)) := by rw [eY]; exact (bks ne_place_n22 (bks ne_place_n22 (bks ne_place_n22 (bks ne_place_n22 (bks ne_place_n22 (bks ne_place_n22 k_place))))))
              replace k_n77 : X58.heap[g56]? = some (.cells #[.int .i64 4, .int .i64 0, .int .i64 0, .int .i64 0, .int .i64 0, .int .i64 0, .int .i64 0, .int .i64 s.a, .int .i64 s.b, .int .i64 s.c, .int .i64 s.d, .int .i64 4, .int .i64 0, .int .i64 0, .int .i64 0, .int .i64 0, .int .i64 0, .int .i64 0, .int .i64 u.a, .int .i64 u.b, .int .i64 u.c, .int .i64 u.d, .int .i64 2, .int .i64 x, .int .i64 y, .int .i64 0, .int .i64 0, .int .i64 0, .int .i64 0, .int .i64 0, .int .i64 0, .int .i64 0, .int .i64 0, .int .i64 3, .int .i64 p2.a, .int .i64 p2.b, .int .i64 0, .int .i64 0, .int .i64 0, .int .i64 0, .int .i64 0, .int .i64 0, .int .i64 0, .int .i64 0] 62 (0, 0)) := by rw [eY]; exact (bks ne_n77_n22 (bks ne_n77_n22 (bks ne_n77_n22 (bks ne_n77_n22 (bks ne_n77_n22 (bks ne_n77_n22 k_n77))))))
              replace bw : Below w.heap.size w X58 := by rw [eY]; exact (bss lo_n22 (bss lo_n22 (bss lo_n22 (bss lo_n22 (bss lo_n22 (bss lo_n22 bw))))))
              replace k_n22 : X58.heap[g54]? = some (.cells #[.int .i64 a, .int .i64 b, .int .i64 c, .int .i64 d, .int .i64 (c - a), .slice A3 N c3] 29 (0, 0)) := by rw [eY]; exact q6s k_n22
              (try replace r1 := Rd.sized (W := X58) (Rd.sset na_r1 (Rd.sset na_r1 (Rd.sset na_r1 (Rd.sset na_r1 (Rd.sset na_r1 (Rd.sset na_r1 r1)))))) eY)
              (try replace r2 := Rd.sized (W := X58) (Rd.sset na_r2 (Rd.sset na_r2 (Rd.sset na_r2 (Rd.sset na_r2 (Rd.sset na_r2 (Rd.sset na_r2 r2)))))) eY)
              clear eY
              refine wpAnyH_done (by kernel_rfl) ?_ _
              go_wp2_with fail
              go_meet
              exact ⟨_, A1, c1, A2, c2, A3, c3, rfl, rfl, rfl, k_n22, k_r, k_s, k_u, k_q, k_both, k_all, k_read, k_place, r1, r2, bw⟩
          · go_simp
            refine hK.out _ _ ⟨cka hHeld.1, cka hHeld.2.1, cka hHeld.2.2.1, cka hHeld.2.2.2.1, cka hHeld.2.2.2.2.1, cka hHeld.2.2.2.2.2.1, cka hHeld.2.2.2.2.2.2.1, cka hHeld.2.2.2.2.2.2.2.1, cka hHeld.2.2.2.2.2.2.2.2.1, cka hHeld.2.2.2.2.2.2.2.2.2.1, cka hHeld.2.2.2.2.2.2.2.2.2.2.1, cka hHeld.2.2.2.2.2.2.2.2.2.2.2.1, cka hHeld.2.2.2.2.2.2.2.2.2.2.2.2.1, cka hHeld.2.2.2.2.2.2.2.2.2.2.2.2.2.1, cka hHeld.2.2.2.2.2.2.2.2.2.2.2.2.2.2.1, cka hHeld.2.2.2.2.2.2.2.2.2.2.2.2.2.2.2.1, cka hHeld.2.2.2.2.2.2.2.2.2.2.2.2.2.2.2.2.1, cka hHeld.2.2.2.2.2.2.2.2.2.2.2.2.2.2.2.2.2.1, cka hHeld.2.2.2.2.2.2.2.2.2.2.2.2.2.2.2.2.2.2.1, cka hHeld.2.2.2.2.2.2.2.2.2.2.2.2.2.2.2.2.2.2.2.1, cka hHeld.2.2.2.2.2.2.2.2.2.2.2.2.2.2.2.2.2.2.2.2.1, cka hHeld.2.2.2.2.2.2.2.2.2.2.2.2.2.2.2.2.2.2.2.2.2.1, cka hHeld.2.2.2.2.2.2.2.2.2.2.2.2.2.2.2.2.2.2.2.2.2.2.1, cka hHeld.2.2.2.2.2.2.2.2.2.2.2.2.2.2.2.2.2.2.2.2.2.2.2.1, cka hHeld.2.2.2.2.2.2.2.2.2.2.2.2.2.2.2.2.2.2.2.2.2.2.2.2.1, cka hHeld.2.2.2.2.2.2.2.2.2.2.2.2.2.2.2.2.2.2.2.2.2.2.2.2.2.1, cka hHeld.2.2.2.2.2.2.2.2.2.2.2.2.2.2.2.2.2.2.2.2.2.2.2.2.2.2.1, cka hHeld.2.2.2.2.2.2.2.2.2.2.2.2.2.2.2.2.2.2.2.2.2.2.2.2.2.2.2.1, cka hHeld.2.2.2.2.2.2.2.2.2.2.2.2.2.2.2.2.2.2.2.2.2.2.2.2.2.2.2.2.1, cka hHeld.2.2.2.2.2.2.2.2.2.2.2.2.2.2.2.2.2.2.2.2.2.2.2.2.2.2.2.2.2.1, cka hHeld.2.2.2.2.2.2.2.2.2.2.2.2.2.2.2.2.2.2.2.2.2.2.2.2.2.2.2.2.2.2.1, cka hHeld.2.2.2.2.2.2.2.2.2.2.2.2.2.2.2.2.2.2.2.2.2.2.2.2.2.2.2.2.2.2.2.1, cka hHeld.2.2.2.2.2.2.2.2.2.2.2.2.2.2.2.2.2.2.2.2.2.2.2.2.2.2.2.2.2.2.2.2.1, cka hHeld.2.2.2.2.2.2.2.2.2.2.2.2.2.2.2.2.2.2.2.2.2.2.2.2.2.2.2.2.2.2.2.2.2⟩ (fun hHeld => ?_)
            clear hK K
            (try simp only [List.setIfInBounds_toArray, List.set_cons_zero, List.set_cons_succ])
            obtain ⟨X59, g59, eY, eg⟩ : ∃ Y g, Y = X40.alloc (.cells #[.int .i64 0, .int .i64 0, .int .i64 0, .int .i64 0, .int .i64 0, .slice none 0 0] 29) ∧ g = X40.heap.size := ⟨_, _, rfl, rfl⟩
            rw [← eY, ← eg]
            rw [← eY] at hHeld
            have bc : Below X40.heap.size X40 X59 := by rw [eY]; exact (Below.refl _ _).alloc (Nat.le_refl _) _
            have k_n22 : X59.heap[g59]? = some (.cells #[.int .i64 0, .int .i64 0, .int .i64 0, .int .i64 0, .int .i64 0, .slice none 0 0] 29 (0, 0)) := by rw [eY, eg]; exact heap_alloc_new X40 _
            have lo_n22 : w.heap.size ≤ g59 := by rw [eg]; exact bw.size
            have ne_r_n22 : ¬ w.heap.size = g59 := ne_new k_r eg
            have ne_s_n22 : ¬ w.heap.size + 1 = g59 := ne_new k_s eg
            have ne_u_n22 : ¬ w.heap.size + 2 = g59 := ne_new k_u eg
            have ne_q_n22 : ¬ g_q = g59 := ne_new k_q eg
            have ne_both_n22 : ¬ g_both = g59 := ne_new k_both eg
            have ne_all_n22 : ¬ g_all = g59 := ne_new k_all eg
            have ne_read_n22 : ¬ g_read = g59 := ne_new k_read eg
            have ne_place_n22 : ¬ g_place = g59 := ne_new k_place eg
            (try have na_r1 := Rd.ne_new r1 eg)
            (try have na_r2 := Rd.ne_new r2 eg)
            replace k_r := bk bc k_r
            replace k_s := bk bc k_s
            replace k_u := bk bc k_u
            replace k_q := bk bc k_q
            replace k_both := bk bc k_both
            replace k_all := bk bc k_all
            replace k_read := bk bc k_read
            replace k_place := bk bc k_place
            replace bw := bst bc bw
            (try replace r1 := (r1.below bc).more bc.size)
            (try replace r2 := (r2.below bc).more bc.size)
            clear bc eY eg
            refine wpAnyH_ready (rs := [3]) (by kernel_rfl) (by simp) ?_
            refine (AllReadyH.cons rfl (fun K hK => ?_) AllReadyH.nil)
            go_simp
            refine (toRect4 s.a s.b s.c s.d _).mono ?_
            rintro e X60 ⟨rfl, bc⟩
            refine hK.out _ _ ⟨ck bc hHeld.1, ck bc hHeld.2.1, ck bc hHeld.2.2.1, ck bc hHeld.2.2.2.1, ck bc hHeld.2.2.2.2.1, ck bc hHeld.2.2.2.2.2.1, ck bc hHeld.2.2.2.2.2.2.1, ck bc hHeld.2.2.2.2.2.2.2.1, ck bc hHeld.2.2.2.2.2.2.2.2.1, ck bc hHeld.2.2.2.2.2.2.2.2.2.1, ck bc hHeld.2.2.2.2.2.2.2.2.2.2.1, ck bc hHeld.2.2.2.2.2.2.2.2.2.2.2.1, ck bc hHeld.2.2.2.2.2.2.2.2.2.2.2.2.1, ck bc hHeld.2.2.2.2.2.2.2.2.2.2.2.2.2.1, ck bc hHeld.2.2.2.2.2.2.2.2.2.2.2.2.2.2.1, ck bc hHeld.2.2.2.2.2.2.2.2.2.2.2.2.2.2.2.1, ck bc hHeld.2.2.2.2.2.2.2.2.2.2.2.2.2.2.2.2.1, ck bc hHeld.2.2.2.2.2.2.2.2.2.2.2.2.2.2.2.2.2.1, ck bc hHeld.2.2.2.2.2.2.2.2.2.2.2.2.2.2.2.2.2.2.1, ck bc hHeld.2.2.2.2.2.2.2.2.2.2.2.2.2.2.2.2.2.2.2.1, ck bc hHeld.2.2.2.2.2.2.2.2.2.2.2.2.2.2.2.2.2.2.2.2.1, ck bc hHeld.2.2.2.2.2.2.2.2.2.2.2.2.2.2.2.2.2.2.2.2.2.1, ck bc hHeld.2.2.2.2.2.2.2.2.2.2.2.2.2.2.2.2.2.2.2.2.2.2.1, ck bc hHeld.2.2.2.2.2.2.2.2.2.2.2.2.2.2.2.2.2.2.2.2.2.2.2.1, ck bc hHeld.2.2.2.2.2.2.2.2.2.2.2.2.2.2.2.2.2.2.2.2.2.2.2.2.1, ck bc hHeld.2.2.2.2.2.2.2.2.2.2.2.2.2.2.2.2.2.2.2.2.2.2.2.2.2.1, ck bc hHeld.2.2.2.2.2.2.2.2.2.2.2.2.2.2.2.2.2.2.2.2.2.2.2.2.2.2.1, ck bc hHeld.2.2.2.2.2.2.2.2.2.2.2.2.2.2.2.2.2.2.2.2.2.2.2.2.2.2.2.1, ck bc hHeld.2.2.2.2.2.2.2.2.2.2.2.2.2.2.2.2.2.2.2.2.2.2.2.2.2.2.2.2.1, ck bc hHeld.2.2.2.2.2.2.2.2.2.2.2.2.2.2.2.2.2.2.2.2.2.2.2.2.2.2.2.2.2.1, ck bc hHeld.2.2.2.2.2.2.2.2.2.2.2.2.2.2.2.2.2.2.2.2.2.2.2.2.2.2.2.2.2.2.1, ck bc hHeld.2.2.2.2.2.2.2.2.2.2.2.2.2.2.2.2.2.2.2.2.2.2.2.2.2.2.2.2.2.2.2.1, ck bc hHeld.2.2.2.2.2.2.2.2.2.2.2.2.2.2.2.2.2.2.2.2.2.2.2.2.2.2.2.2.2.2.2.2.1, ck bc hHeld.2.2.2.2.2.2.2.2.2.2.2.2.2.2.2.2.2.2.2.2.2.2.2.2.2.2.2.2.2.2.2.2.2⟩ (fun hHeld => ?_)
            clear hK K
            (try simp only [List.setIfInBounds_toArray, List.set_cons_zero, List.set_cons_succ])
            replace k_r := bk bc k_r
            replace k_s := bk bc k_s
            replace k_u := bk bc k_u
            replace k_q := bk bc k_q
            replace k_both := bk bc k_both
            replace k_all := bk bc k_all
            replace k_read := bk bc k_read
            replace k_place := bk bc k_place
            replace k_n22 := bk bc k_n22
            replace bw := bst bc bw
            (try replace r1 := (r1.below bc).more bc.size)
            (try replace r2 := (r2.below bc).more bc.size)
            clear bc
            refine takx (i := 4) (D := 71) (v := .agg #[.int .i64 4, .int .i64 0, .int .i64 0, .int .i64 0, .int .i64 0, .int .i64 0, .int .i64 0, .int .i64 s.a, .int .i64 s.b, .int .i64 s.c, .int .i64 s.d]) rfl rfl (by kernel_rfl) (by kernel_rfl) (by kernel_rfl) (fun _ _ _ h => h) (Or.inl ⟨by rfl, fun W hSw => by (try dsimp only at hSw); go_simp⟩) (by assumption) ?_
            (try simp only [List.setIfInBounds_toArray, List.set_cons_zero, List.set_cons_succ])
            refine wpAnyH_ready (rs := [6]) (by kernel_rfl) (by simp) ?_
            refine (AllReadyH.cons rfl (fun K hK => ?_) AllReadyH.nil)
            go_simp
            refine (toRect4 u.a u.b u.c u.d _).mono ?_
            rintro e X61 ⟨rfl, bc⟩
            refine hK.out _ _ ⟨ck bc hHeld.1, ck bc hHeld.2.1, ck bc hHeld.2.2.1, ck bc hHeld.2.2.2.1, ck bc hHeld.2.2.2.2.1, ck bc hHeld.2.2.2.2.2.1, ck bc hHeld.2.2.2.2.2.2.1, ck bc hHeld.2.2.2.2.2.2.2.1, ck bc hHeld.2.2.2.2.2.2.2.2.1, ck bc hHeld.2.2.2.2.2.2.2.2.2.1, ck bc hHeld.2.2.2.2.2.2.2.2.2.2.1, ck bc hHeld.2.2.2.2.2.2.2.2.2.2.2.1, ck bc hHeld.2.2.2.2.2.2.2.2.2.2.2.2.1, ck bc hHeld.2.2.2.2.2.2.2.2.2.2.2.2.2.1, ck bc hHeld.2.2.2.2.2.2.2.2.2.2.2.2.2.2.1, ck bc hHeld.2.2.2.2.2.2.2.2.2.2.2.2.2.2.2.1, ck bc hHeld.2.2.2.2.2.2.2.2.2.2.2.2.2.2.2.2.1, ck bc hHeld.2.2.2.2.2.2.2.2.2.2.2.2.2.2.2.2.2.1, ck bc hHeld.2.2.2.2.2.2.2.2.2.2.2.2.2.2.2.2.2.2.1, ck bc hHeld.2.2.2.2.2.2.2.2.2.2.2.2.2.2.2.2.2.2.2.1, ck bc hHeld.2.2.2.2.2.2.2.2.2.2.2.2.2.2.2.2.2.2.2.2.1, ck bc hHeld.2.2.2.2.2.2.2.2.2.2.2.2.2.2.2.2.2.2.2.2.2.1, ck bc hHeld.2.2.2.2.2.2.2.2.2.2.2.2.2.2.2.2.2.2.2.2.2.2.1, ck bc hHeld.2.2.2.2.2.2.2.2.2.2.2.2.2.2.2.2.2.2.2.2.2.2.2.1, ck bc hHeld.2.2.2.2.2.2.2.2.2.2.2.2.2.2.2.2.2.2.2.2.2.2.2.2.1, ck bc hHeld.2.2.2.2.2.2.2.2.2.2.2.2.2.2.2.2.2.2.2.2.2.2.2.2.2.1, ck bc hHeld.2.2.2.2.2.2.2.2.2.2.2.2.2.2.2.2.2.2.2.2.2.2.2.2.2.2.1, ck bc hHeld.2.2.2.2.2.2.2.2.2.2.2.2.2.2.2.2.2.2.2.2.2.2.2.2.2.2.2.1, ck bc hHeld.2.2.2.2.2.2.2.2.2.2.2.2.2.2.2.2.2.2.2.2.2.2.2.2.2.2.2.2.1, ck bc hHeld.2.2.2.2.2.2.2.2.2.2.2.2.2.2.2.2.2.2.2.2.2.2.2.2.2.2.2.2.2.1, ck bc hHeld.2.2.2.2.2.2.2.2.2.2.2.2.2.2.2.2.2.2.2.2.2.2.2.2.2.2.2.2.2.2.1, ck bc hHeld.2.2.2.2.2.2.2.2.2.2.2.2.2.2.2.2.2.2.2.2.2.2.2.2.2.2.2.2.2.2.2.1, ck bc hHeld.2.2.2.2.2.2.2.2.2.2.2.2.2.2.2.2.2.2.2.2.2.2.2.2.2.2.2.2.2.2.2.2.1, ck bc hHeld.2.2.2.2.2.2.2.2.2.2.2.2.2.2.2.2.2.2.2.2.2.2.2.2.2.2.2.2.2.2.2.2.2⟩ (fun hHeld => ?_)
            clear hK K
            (try simp only [List.setIfInBounds_toArray, List.set_cons_zero, List.set_cons_succ])
            replace k_r := bk bc k_r
            replace k_s := bk bc k_s
            replace k_u := bk bc k_u
            replace k_q := bk bc k_q
            replace k_both := bk bc k_both
            replace k_all := bk bc k_all
            replace k_read := bk bc k_read
            replace k_place := bk bc k_place
            replace k_n22 := bk bc k_n22
            replace bw := bst bc bw
            (try replace r1 := (r1.below bc).more bc.size)
            (try replace r2 := (r2.below bc).more bc.size)
            clear bc
            refine takx (i := 7) (D := 74) (v := .agg #[.int .i64 4, .int .i64 0, .int .i64 0, .int .i64 0, .int .i64 0, .int .i64 0, .int .i64 0, .int .i64 u.a, .int .i64 u.b, .int .i64 u.c, .int .i64 u.d]) rfl rfl (by kernel_rfl) (by kernel_rfl) (by kernel_rfl) (fun _ _ _ h => h) (Or.inl ⟨by rfl, fun W hSw => by (try dsimp only at hSw); go_simp⟩) (by assumption) ?_
            (try simp only [List.setIfInBounds_toArray, List.set_cons_zero, List.set_cons_succ])
            refine wpAnyH_ready (rs := [10]) (by kernel_rfl) (by simp) ?_
            refine (AllReadyH.cons rfl (fun K hK => ?_) AllReadyH.nil)
            go_simp
            refine hK.out _ _ ⟨cka hHeld.1, cka hHeld.2.1, cka hHeld.2.2.1, cka hHeld.2.2.2.1, cka hHeld.2.2.2.2.1, cka hHeld.2.2.2.2.2.1, cka hHeld.2.2.2.2.2.2.1, cka hHeld.2.2.2.2.2.2.2.1, cka hHeld.2.2.2.2.2.2.2.2.1, cka hHeld.2.2.2.2.2.2.2.2.2.1, cka hHeld.2.2.2.2.2.2.2.2.2.2.1, cka hHeld.2.2.2.2.2.2.2.2.2.2.2.1, cka hHeld.2.2.2.2.2.2.2.2.2.2.2.2.1, cka hHeld.2.2.2.2.2.2.2.2.2.2.2.2.2.1, cka hHeld.2.2.2.2.2.2.2.2.2.2.2.2.2.2.1, cka hHeld.2.2.2.2.2.2.2.2.2.2.2.2.2.2.2.1, cka hHeld.2.2.2.2.2.2.2.2.2.2.2.2.2.2.2.2.1, cka hHeld.2.2.2.2.2.2.2.2.2.2.2.2.2.2.2.2.2.1, cka hHeld.2.2.2.2.2.2.2.2.2.2.2.2.2.2.2.2.2.2.1, cka hHeld.2.2.2.2.2.2.2.2.2.2.2.2.2.2.2.2.2.2.2.1, cka hHeld.2.2.2.2.2.2.2.2.2.2.2.2.2.2.2.2.2.2.2.2.1, cka hHeld.2.2.2.2.2.2.2.2.2.2.2.2.2.2.2.2.2.2.2.2.2.1, cka hHeld.2.2.2.2.2.2.2.2.2.2.2.2.2.2.2.2.2.2.2.2.2.2.1, cka hHeld.2.2.2.2.2.2.2.2.2.2.2.2.2.2.2.2.2.2.2.2.2.2.2.1, cka hHeld.2.2.2.2.2.2.2.2.2.2.2.2.2.2.2.2.2.2.2.2.2.2.2.2.1, cka hHeld.2.2.2.2.2.2.2.2.2.2.2.2.2.2.2.2.2.2.2.2.2.2.2.2.2.1, cka hHeld.2.2.2.2.2.2.2.2.2.2.2.2.2.2.2.2.2.2.2.2.2.2.2.2.2.2.1, cka hHeld.2.2.2.2.2.2.2.2.2.2.2.2.2.2.2.2.2.2.2.2.2.2.2.2.2.2.2.1, cka hHeld.2.2.2.2.2.2.2.2.2.2.2.2.2.2.2.2.2.2.2.2.2.2.2.2.2.2.2.2.1, cka hHeld.2.2.2.2.2.2.2.2.2.2.2.2.2.2.2.2.2.2.2.2.2.2.2.2.2.2.2.2.2.1, cka hHeld.2.2.2.2.2.2.2.2.2.2.2.2.2.2.2.2.2.2.2.2.2.2.2.2.2.2.2.2.2.2.1, cka hHeld.2.2.2.2.2.2.2.2.2.2.2.2.2.2.2.2.2.2.2.2.2.2.2.2.2.2.2.2.2.2.2.1, cka hHeld.2.2.2.2.2.2.2.2.2.2.2.2.2.2.2.2.2.2.2.2.2.2.2.2.2.2.2.2.2.2.2.2.1, cka hHeld.2.2.2.2.2.2.2.2.2.2.2.2.2.2.2.2.2.2.2.2.2.2.2.2.2.2.2.2.2.2.2.2.2⟩ (fun hHeld => ?_)
            clear hK K
            (try simp only [List.setIfInBounds_toArray, List.set_cons_zero, List.set_cons_succ])
            obtain ⟨X62, g62, eY, eg⟩ : ∃ Y g, Y = X61.alloc (.cells #[.int .i64 4, .int .i64 0, .int .i64 0, .int .i64 0, .int .i64 0, .int .i64 0, .int .i64 0, .int .i64 s.a, .int .i64 s.b, .int .i64 s.c, .int .i64 s.d, .int .i64 4, .int .i64 0, .int .i64 0, .int .i64 0, .int .i64 0, .int .i64 0, .int .i64 0, .int .i64 u.a, .int .i64 u.b, .int .i64 u.c, .int .i64 u.d, .int .i64 2, .int .i64 x, .int .i64 y, .int .i64 0, .int .i64 0, .int .i64 0, .int .i64 0, .int .i64 0, .int .i64 0, .int .i64 0, .int .i64 0, .int .i64 3, .int .i64 p2.a, .int .i64 p2.b, .int .i64 0, .int .i64 0, .int .i64 0, .int .i64 0, .int .i64 0, .int .i64 0, .int .i64 0, .int .i64 0] 62) ∧ g = X61.heap.size := ⟨_, _, rfl, rfl⟩
            rw [← eY, ← eg]
            rw [← eY] at hHeld
            have bc : Below X61.heap.size X61 X62 := by rw [eY]; exact (Below.refl _ _).alloc (Nat.le_refl _) _
            have k_n77 : X62.heap[g62]? = some (.cells #[.int .i64 4, .int .i64 0, .int .i64 0, .int .i64 0, .int .i64 0, .int .i64 0, .int .i64 0, .int .i64 s.a, .int .i64 s.b, .int .i64 s.c, .int .i64 s.d, .int .i64 4, .int .i64 0, .int .i64 0, .int .i64 0, .int .i64 0, .int .i64 0, .int .i64 0, .int .i64 u.a, .int .i64 u.b, .int .i64 u.c, .int .i64 u.d, .int .i64 2, .int .i64 x, .int .i64 y, .int .i64 0, .int .i64 0, .int .i64 0, .int .i64 0, .int .i64 0, .int .i64 0, .int .i64 0, .int .i64 0, .int .i64 3, .int .i64 p2.a, .int .i64 p2.b, .int .i64 0, .int .i64 0, .int .i64 0, .int .i64 0, .int .i64 0, .int .i64 0, .int .i64 0, .int .i64 0] 62 (0, 0)) := by rw [eY, eg]; exact heap_alloc_new X61 _
            have ne_n77_n22 : ¬ g62 = g59 := fun e => ne_new k_n22 eg e.symm
            replace k_r := bk bc k_r
            replace k_s := bk bc k_s
            replace k_u := bk bc k_u
            replace k_q := bk bc k_q
            replace k_both := bk bc k_both
            replace k_all := bk bc k_all
            replace k_read := bk bc k_read
            replace k_place := bk bc k_place
            replace k_n22 := bk bc k_n22
            replace bw := bst bc bw
            (try replace r1 := (r1.below bc).more bc.size)
            (try replace r2 := (r2.below bc).more bc.size)
            clear bc eY eg
            refine wpAnyH_ready (rs := [11]) (by kernel_rfl) (by simp) ?_
            refine (AllReadyH.cons rfl (fun K hK => ?_) AllReadyH.nil)
            go_simp
            refine ((grayRun_any a b c d N h3 h4 h5 h6 HN.out n cp Z zs 4 4 _ [⟨4, 0, 0, ⟨0, 0, 0, 0⟩, s⟩, ⟨4, 0, 0, ⟨0, 0, 0, 0⟩, u⟩, ⟨2, x, y, ⟨0, 0, 0, 0⟩, ⟨0, 0, 0, 0⟩⟩, ⟨3, p2.a, p2.b, ⟨0, 0, 0, 0⟩, ⟨0, 0, 0, 0⟩⟩] _ ((HR.out.below bw).more bw.size) (RdSteps.of_block (ss := [⟨4, 0, 0, ⟨0, 0, 0, 0⟩, s⟩, ⟨4, 0, 0, ⟨0, 0, 0, 0⟩, u⟩, ⟨2, x, y, ⟨0, 0, 0, 0⟩, ⟨0, 0, 0, 0⟩⟩, ⟨3, p2.a, p2.b, ⟨0, 0, 0, 0⟩, ⟨0, 0, 0, 0⟩⟩]) (m := 4) k_n77 rfl rfl (by decide) OK1.out)).mono (fun _ _ h => h.offs (k := 1) (m := 1) (cs := [rdAt (byt N zs) a b c d x y]) (os := [0]) E1.out.1 rfl E1.out.2.1 E1.out.2.2 rfl)).mono ?_
            rintro e X63 ⟨A1, c1, A2, c2, A3, c3, rfl, r1, r2, lo1, lo2, bc⟩
            refine hK.out _ _ ⟨ck bc hHeld.1, ck bc hHeld.2.1, ck bc hHeld.2.2.1, ck bc hHeld.2.2.2.1, ck bc hHeld.2.2.2.2.1, ck bc hHeld.2.2.2.2.2.1, ck bc hHeld.2.2.2.2.2.2.1, ck bc hHeld.2.2.2.2.2.2.2.1, ck bc hHeld.2.2.2.2.2.2.2.2.1, ck bc hHeld.2.2.2.2.2.2.2.2.2.1, ck bc hHeld.2.2.2.2.2.2.2.2.2.2.1, ck bc hHeld.2.2.2.2.2.2.2.2.2.2.2.1, ck bc hHeld.2.2.2.2.2.2.2.2.2.2.2.2.1, ck bc hHeld.2.2.2.2.2.2.2.2.2.2.2.2.2.1, ck bc hHeld.2.2.2.2.2.2.2.2.2.2.2.2.2.2.1, ck bc hHeld.2.2.2.2.2.2.2.2.2.2.2.2.2.2.2.1, ck bc hHeld.2.2.2.2.2.2.2.2.2.2.2.2.2.2.2.2.1, ck bc hHeld.2.2.2.2.2.2.2.2.2.2.2.2.2.2.2.2.2.1, ck bc hHeld.2.2.2.2.2.2.2.2.2.2.2.2.2.2.2.2.2.2.1, ck bc hHeld.2.2.2.2.2.2.2.2.2.2.2.2.2.2.2.2.2.2.2.1, ck bc hHeld.2.2.2.2.2.2.2.2.2.2.2.2.2.2.2.2.2.2.2.2.1, ck bc hHeld.2.2.2.2.2.2.2.2.2.2.2.2.2.2.2.2.2.2.2.2.2.1, ck bc hHeld.2.2.2.2.2.2.2.2.2.2.2.2.2.2.2.2.2.2.2.2.2.2.1, ck bc hHeld.2.2.2.2.2.2.2.2.2.2.2.2.2.2.2.2.2.2.2.2.2.2.2.1, ck bc hHeld.2.2.2.2.2.2.2.2.2.2.2.2.2.2.2.2.2.2.2.2.2.2.2.2.1, ck bc hHeld.2.2.2.2.2.2.2.2.2.2.2.2.2.2.2.2.2.2.2.2.2.2.2.2.2.1, ck bc hHeld.2.2.2.2.2.2.2.2.2.2.2.2.2.2.2.2.2.2.2.2.2.2.2.2.2.2.1, ck bc hHeld.2.2.2.2.2.2.2.2.2.2.2.2.2.2.2.2.2.2.2.2.2.2.2.2.2.2.2.1, ck bc hHeld.2.2.2.2.2.2.2.2.2.2.2.2.2.2.2.2.2.2.2.2.2.2.2.2.2.2.2.2.1, ck bc hHeld.2.2.2.2.2.2.2.2.2.2.2.2.2.2.2.2.2.2.2.2.2.2.2.2.2.2.2.2.2.1, ck bc hHeld.2.2.2.2.2.2.2.2.2.2.2.2.2.2.2.2.2.2.2.2.2.2.2.2.2.2.2.2.2.2.1, ck bc hHeld.2.2.2.2.2.2.2.2.2.2.2.2.2.2.2.2.2.2.2.2.2.2.2.2.2.2.2.2.2.2.2.1, ck bc hHeld.2.2.2.2.2.2.2.2.2.2.2.2.2.2.2.2.2.2.2.2.2.2.2.2.2.2.2.2.2.2.2.2.1, ck bc hHeld.2.2.2.2.2.2.2.2.2.2.2.2.2.2.2.2.2.2.2.2.2.2.2.2.2.2.2.2.2.2.2.2.2⟩ (fun hHeld => ?_)
            clear hK K
            (try simp only [List.setIfInBounds_toArray, List.set_cons_zero, List.set_cons_succ])
            have na_r1 := lo_ne (n := 1) lo1 k_n22
            have na_r2 := lo_ne (n := 1) lo2 k_n22
            replace k_r := bk bc k_r
            replace k_s := bk bc k_s
            replace k_u := bk bc k_u
            replace k_q := bk bc k_q
            replace k_both := bk bc k_both
            replace k_all := bk bc k_all
            replace k_read := bk bc k_read
            replace k_place := bk bc k_place
            replace k_n22 := bk bc k_n22
            replace k_n77 := bk bc k_n77
            replace bw := bst bc bw
            (try replace r1 := (r1.below bc).more bc.size)
            (try replace r2 := (r2.below bc).more bc.size)
            clear bc
            refine takx (i := 12) (D := 66) (v := .tuple #[.slice A1 1 c1, .slice A2 1 c2, .agg #[.int .i64 a, .int .i64 b, .int .i64 c, .int .i64 d, .int .i64 (c - a), .slice A3 N c3]]) rfl rfl (by kernel_rfl) (by kernel_rfl) (by kernel_rfl) (fun _ _ _ h => h) (Or.inl ⟨by rfl, fun W hSw => by (try dsimp only at hSw); go_simp⟩) (by assumption) ?_
            (try simp only [List.setIfInBounds_toArray, List.set_cons_zero, List.set_cons_succ])
            refine takx (i := 13) (D := 79) (v := .slice A1 1 c1) rfl rfl (by kernel_rfl) (by kernel_rfl) (by kernel_rfl) (fun _ _ _ h => h) (Or.inl ⟨by rfl, fun W hSw => by (try dsimp only at hSw); go_simp⟩) (by assumption) ?_
            (try simp only [List.setIfInBounds_toArray, List.set_cons_zero, List.set_cons_succ])
            refine takx (i := 14) (D := 80) (v := .slice A2 1 c2) rfl rfl (by kernel_rfl) (by kernel_rfl) (by kernel_rfl) (fun _ _ _ h => h) (Or.inl ⟨by rfl, fun W hSw => by (try dsimp only at hSw); go_simp⟩) (by assumption) ?_
            (try simp only [List.setIfInBounds_toArray, List.set_cons_zero, List.set_cons_succ])
            refine takx (i := 15) (D := 81) (v := .agg #[.int .i64 a, .int .i64 b, .int .i64 c, .int .i64 d, .int .i64 (c - a), .slice A3 N c3]) rfl rfl (by kernel_rfl) (by kernel_rfl) (by kernel_rfl) (fun _ _ _ h => h) (Or.inl ⟨by rfl, fun W hSw => by (try dsimp only at hSw); go_simp⟩) (by assumption) ?_
            (try simp only [List.setIfInBounds_toArray, List.set_cons_zero, List.set_cons_succ])
            refine takx (i := 17) (D := 20) (v := .slice A1 1 c1) rfl rfl (by kernel_rfl) (by kernel_rfl) (by kernel_rfl) (fun _ _ _ h => h) (Or.inl ⟨by rfl, fun W hSw => by (try dsimp only at hSw); go_simp⟩) (by assumption) ?_
            (try simp only [List.setIfInBounds_toArray, List.set_cons_zero, List.set_cons_succ])
            refine takx (i := 18) (D := 21) (v := .slice A2 1 c2) rfl rfl (by kernel_rfl) (by kernel_rfl) (by kernel_rfl) (fun _ _ _ h => h) (Or.inl ⟨by rfl, fun W hSw => by (try dsimp only at hSw); go_simp⟩) (by assumption) ?_
            (try simp only [List.setIfInBounds_toArray, List.set_cons_zero, List.set_cons_succ])
            refine wpAnyH_ready (rs := [19]) (by kernel_rfl) (by simp) ?_
            refine (AllReadyH.cons rfl (fun K hK => ?_) AllReadyH.nil)
            have qq := q6c k_n22
            go_simp
            clear qq
            refine hK.out _ _ ⟨(cks ne_q_n22 (cks ne_q_n22 (cks ne_q_n22 (cks ne_q_n22 (cks ne_q_n22 (cks ne_q_n22 hHeld.1)))))), (cks ne_q_n22 (cks ne_q_n22 (cks ne_q_n22 (cks ne_q_n22 (cks ne_q_n22 (cks ne_q_n22 hHeld.2.1)))))), (cks ne_q_n22 (cks ne_q_n22 (cks ne_q_n22 (cks ne_q_n22 (cks ne_q_n22 (cks ne_q_n22 hHeld.2.2.1)))))), (cks ne_q_n22 (cks ne_q_n22 (cks ne_q_n22 (cks ne_q_n22 (cks ne_q_n22 (cks ne_q_n22 hHeld.2.2.2.1)))))), (cks ne_s_n22 (cks ne_s_n22 (cks ne_s_n22 (cks ne_s_n22 (cks ne_s_n22 (cks ne_s_n22 hHeld.2.2.2.2.1)))))), (cks ne_s_n22 (cks ne_s_n22 (cks ne_s_n22 (cks ne_s_n22 (cks ne_s_n22 (cks ne_s_n22 hHeld.2.2.2.2.2.1)))))), (cks ne_s_n22 (cks ne_s_n22 (cks ne_s_n22 (cks ne_s_n22 (cks ne_s_n22 (cks ne_s_n22 hHeld.2.2.2.2.2.2.1)))))), (cks ne_s_n22 (cks ne_s_n22 (cks ne_s_n22 (cks ne_s_n22 (cks ne_s_n22 (cks ne_s_n22 hHeld.2.2.2.2.2.2.2.1)))))), (cks ne_u_n22 (cks ne_u_n22 (cks ne_u_n22 (cks ne_u_n22 (cks ne_u_n22 (cks ne_u_n22 hHeld.2.2.2.2.2.2.2.2.1)))))), (cks ne_u_n22 (cks ne_u_n22 (cks ne_u_n22 (cks ne_u_n22 (cks ne_u_n22 (cks ne_u_n22 hHeld.2.2.2.2.2.2.2.2.2.1)))))), (cks ne_u_n22 (cks ne_u_n22 (cks ne_u_n22 (cks ne_u_n22 (cks ne_u_n22 (cks ne_u_n22 hHeld.2.2.2.2.2.2.2.2.2.2.1)))))), (cks ne_u_n22 (cks ne_u_n22 (cks ne_u_n22 (cks ne_u_n22 (cks ne_u_n22 (cks ne_u_n22 hHeld.2.2.2.2.2.2.2.2.2.2.2.1)))))), (cks ne_read_n22 (cks ne_read_n22 (cks ne_read_n22 (cks ne_read_n22 (cks ne_read_n22 (cks ne_read_n22 hHeld.2.2.2.2.2.2.2.2.2.2.2.2.1)))))), (cks ne_read_n22 (cks ne_read_n22 (cks ne_read_n22 (cks ne_read_n22 (cks ne_read_n22 (cks ne_read_n22 hHeld.2.2.2.2.2.2.2.2.2.2.2.2.2.1)))))), (cks ne_read_n22 (cks ne_read_n22 (cks ne_read_n22 (cks ne_read_n22 (cks ne_read_n22 (cks ne_read_n22 hHeld.2.2.2.2.2.2.2.2.2.2.2.2.2.2.1)))))), (cks ne_read_n22 (cks ne_read_n22 (cks ne_read_n22 (cks ne_read_n22 (cks ne_read_n22 (cks ne_read_n22 hHeld.2.2.2.2.2.2.2.2.2.2.2.2.2.2.2.1)))))), (cks ne_read_n22 (cks ne_read_n22 (cks ne_read_n22 (cks ne_read_n22 (cks ne_read_n22 (cks ne_read_n22 hHeld.2.2.2.2.2.2.2.2.2.2.2.2.2.2.2.2.1)))))), (cks ne_read_n22 (cks ne_read_n22 (cks ne_read_n22 (cks ne_read_n22 (cks ne_read_n22 (cks ne_read_n22 hHeld.2.2.2.2.2.2.2.2.2.2.2.2.2.2.2.2.2.1)))))), (cks ne_read_n22 (cks ne_read_n22 (cks ne_read_n22 (cks ne_read_n22 (cks ne_read_n22 (cks ne_read_n22 hHeld.2.2.2.2.2.2.2.2.2.2.2.2.2.2.2.2.2.2.1)))))), (cks ne_read_n22 (cks ne_read_n22 (cks ne_read_n22 (cks ne_read_n22 (cks ne_read_n22 (cks ne_read_n22 hHeld.2.2.2.2.2.2.2.2.2.2.2.2.2.2.2.2.2.2.2.1)))))), (cks ne_read_n22 (cks ne_read_n22 (cks ne_read_n22 (cks ne_read_n22 (cks ne_read_n22 (cks ne_read_n22 hHeld.2.2.2.2.2.2.2.2.2.2.2.2.2.2.2.2.2.2.2.2.1)))))), (cks ne_read_n22 (cks ne_read_n22 (cks ne_read_n22 (cks ne_read_n22 (cks ne_read_n22 (cks ne_read_n22 hHeld.2.2.2.2.2.2.2.2.2.2.2.2.2.2.2.2.2.2.2.2.2.1)))))), (cks ne_read_n22 (cks ne_read_n22 (cks ne_read_n22 (cks ne_read_n22 (cks ne_read_n22 (cks ne_read_n22 hHeld.2.2.2.2.2.2.2.2.2.2.2.2.2.2.2.2.2.2.2.2.2.2.1)))))), (cks ne_place_n22 (cks ne_place_n22 (cks ne_place_n22 (cks ne_place_n22 (cks ne_place_n22 (cks ne_place_n22 hHeld.2.2.2.2.2.2.2.2.2.2.2.2.2.2.2.2.2.2.2.2.2.2.2.1)))))), (cks ne_place_n22 (cks ne_place_n22 (cks ne_place_n22 (cks ne_place_n22 (cks ne_place_n22 (cks ne_place_n22 hHeld.2.2.2.2.2.2.2.2.2.2.2.2.2.2.2.2.2.2.2.2.2.2.2.2.1)))))), (cks ne_place_n22 (cks ne_place_n22 (cks ne_place_n22 (cks ne_place_n22 (cks ne_place_n22 (cks ne_place_n22 hHeld.2.2.2.2.2.2.2.2.2.2.2.2.2.2.2.2.2.2.2.2.2.2.2.2.2.1)))))), (cks ne_place_n22 (cks ne_place_n22 (cks ne_place_n22 (cks ne_place_n22 (cks ne_place_n22 (cks ne_place_n22 hHeld.2.2.2.2.2.2.2.2.2.2.2.2.2.2.2.2.2.2.2.2.2.2.2.2.2.2.1)))))), (cks ne_place_n22 (cks ne_place_n22 (cks ne_place_n22 (cks ne_place_n22 (cks ne_place_n22 (cks ne_place_n22 hHeld.2.2.2.2.2.2.2.2.2.2.2.2.2.2.2.2.2.2.2.2.2.2.2.2.2.2.2.1)))))), (cks ne_place_n22 (cks ne_place_n22 (cks ne_place_n22 (cks ne_place_n22 (cks ne_place_n22 (cks ne_place_n22 hHeld.2.2.2.2.2.2.2.2.2.2.2.2.2.2.2.2.2.2.2.2.2.2.2.2.2.2.2.2.1)))))), (cks ne_place_n22 (cks ne_place_n22 (cks ne_place_n22 (cks ne_place_n22 (cks ne_place_n22 (cks ne_place_n22 hHeld.2.2.2.2.2.2.2.2.2.2.2.2.2.2.2.2.2.2.2.2.2.2.2.2.2.2.2.2.2.1)))))), (cks ne_place_n22 (cks ne_place_n22 (cks ne_place_n22 (cks ne_place_n22 (cks ne_place_n22 (cks ne_place_n22 hHeld.2.2.2.2.2.2.2.2.2.2.2.2.2.2.2.2.2.2.2.2.2.2.2.2.2.2.2.2.2.2.1)))))), (cks ne_place_n22 (cks ne_place_n22 (cks ne_place_n22 (cks ne_place_n22 (cks ne_place_n22 (cks ne_place_n22 hHeld.2.2.2.2.2.2.2.2.2.2.2.2.2.2.2.2.2.2.2.2.2.2.2.2.2.2.2.2.2.2.2.1)))))), (cks ne_place_n22 (cks ne_place_n22 (cks ne_place_n22 (cks ne_place_n22 (cks ne_place_n22 (cks ne_place_n22 hHeld.2.2.2.2.2.2.2.2.2.2.2.2.2.2.2.2.2.2.2.2.2.2.2.2.2.2.2.2.2.2.2.2.1)))))), (cks ne_place_n22 (cks ne_place_n22 (cks ne_place_n22 (cks ne_place_n22 (cks ne_place_n22 (cks ne_place_n22 hHeld.2.2.2.2.2.2.2.2.2.2.2.2.2.2.2.2.2.2.2.2.2.2.2.2.2.2.2.2.2.2.2.2.2))))))⟩ (fun hHeld => ?_)
            clear hK K
            (try simp only [List.setIfInBounds_toArray, List.set_cons_zero, List.set_cons_succ])
            obtain ⟨X64, eY⟩ : ∃ Y, Y = ((((((X63.setCell ⟨g59, 0, none⟩ (.int .i64 a)).setCell ⟨g59, 1, none⟩ (.int .i64 b)).setCell ⟨g59, 2, none⟩ (.int .i64 c)).setCell ⟨g59, 3, none⟩ (.int .i64 d)).setCell ⟨g59, 4, none⟩ (.int .i64 (c - a))).setCell ⟨g59, 5, none⟩ (.slice A3 N c3)) := ⟨_, rfl⟩
            rw [← eY] at hHeld ⊢
            replace k_r : X64.heap[w.heap.size]? = some (.cells #[.int .i64 a, .int .i64 b, .int .i64 c, .int .i64 d] 23 (0, 0)) := by rw [eY]; exact (bks ne_r_n22 (bks ne_r_n22 (bks ne_r_n22 (bks ne_r_n22 (bks ne_r_n22 (bks ne_r_n22 k_r))))))
            replace k_s : X64.heap[w.heap.size + 1]? = some (.cells #[.int .i64 s.a, .int .i64 s.b, .int .i64 s.c, .int .i64 s.d] 23 (0, 0)) := by rw [eY]; exact (bks ne_s_n22 (bks ne_s_n22 (bks ne_s_n22 (bks ne_s_n22 (bks ne_s_n22 (bks ne_s_n22 k_s))))))
            replace k_u : X64.heap[w.heap.size + 2]? = some (.cells #[.int .i64 u.a, .int .i64 u.b, .int .i64 u.c, .int .i64 u.d] 23 (0, 0)) := by rw [eY]; exact (bks ne_u_n22 (bks ne_u_n22 (bks ne_u_n22 (bks ne_u_n22 (bks ne_u_n22 (bks ne_u_n22 k_u))))))
            replace k_q : X64.heap[g_q]? = some (.cells #[.int .i64 a, .int .i64 b, .int .i64 c, .int .i64 d] 26 (0, 0)) := by rw [eY]; exact (bks ne_q_n22 (bks ne_q_n22 (bks ne_q_n22 (bks ne_q_n22 (bks ne_q_n22 (bks ne_q_n22 k_q))))))
            replace k_both : X64.heap[g_both]? = some (.cells #[.int .i64 p1.a, .int .i64 p1.b, .int .i64 p1.c, .int .i64 p1.d] 26 (0, 0)) := by rw [eY]; exact (bks ne_both_n22 (bks ne_both_n22 (bks ne_both_n22 (bks ne_both_n22 (bks ne_both_n22 (bks ne_both_n22 k_both))))))
            replace k_all : X64.heap[g_all]? = some (.cells #[.int .i64 p2.a, .int .i64 p2.b, .int .i64 p2.c, .int .i64 p2.d] 26 (0, 0)) := by rw [eY]; exact (bks ne_all_n22 (bks ne_all_n22 (bks ne_all_n22 (bks ne_all_n22 (bks ne_all_n22 (bks ne_all_n22 k_all))))))
            replace k_read : X64.heap[g_read]? = some (.cells #[.int .i64 2, .int .i64 x, .int .i64 y, .int .i64 0, .int .i64 0, .int .i64 0, .int .i64 0, .int .i64 0, .int .i64 0, .int .i64 0, .int .i64 0] 62 (0, 0)) := by rw [eY]; exact (bks ne_read_n22 (bks ne_read_n22 (bks ne_read_n22 (bks ne_read_n22 (bks ne_read_n22 (bks ne_read_n22 k_read))))))
            replace k_place : X64.heap[g_place]? = some (.cells #[.int .i64 3, .int .i64 p2.a, .int .i64 p2.b, .int .i64 0, .int .i64 0, .int .i64 0, .int .i64 0, .int .i64 0, .int .i64 0, .int .i64 0, .int .i64 0] 62 (0, 0)) := by rw [eY]; exact (bks ne_place_n22 (bks ne_place_n22 (bks ne_place_n22 (bks ne_place_n22 (bks ne_place_n22 (bks ne_place_n22 k_place))))))
            replace k_n77 : X64.heap[g62]? = some (.cells #[.int .i64 4, .int .i64 0, .int .i64 0, .int .i64 0, .int .i64 0, .int .i64 0, .int .i64 0, .int .i64 s.a, .int .i64 s.b, .int .i64 s.c, .int .i64 s.d, .int .i64 4, .int .i64 0, .int .i64 0, .int .i64 0, .int .i64 0, .int .i64 0, .int .i64 0, .int .i64 u.a, .int .i64 u.b, .int .i64 u.c, .int .i64 u.d, .int .i64 2, .int .i64 x, .int .i64 y, .int .i64 0, .int .i64 0, .int .i64 0, .int .i64 0, .int .i64 0, .int .i64 0, .int .i64 0, .int .i64 0, .int .i64 3, .int .i64 p2.a, .int .i64 p2.b, .int .i64 0, .int .i64 0, .int .i64 0, .int .i64 0, .int .i64 0, .int .i64 0, .int .i64 0, .int .i64 0] 62 (0, 0)) := by rw [eY]; exact (bks ne_n77_n22 (bks ne_n77_n22 (bks ne_n77_n22 (bks ne_n77_n22 (bks ne_n77_n22 (bks ne_n77_n22 k_n77))))))
            replace bw : Below w.heap.size w X64 := by rw [eY]; exact (bss lo_n22 (bss lo_n22 (bss lo_n22 (bss lo_n22 (bss lo_n22 (bss lo_n22 bw))))))
            replace k_n22 : X64.heap[g59]? = some (.cells #[.int .i64 a, .int .i64 b, .int .i64 c, .int .i64 d, .int .i64 (c - a), .slice A3 N c3] 29 (0, 0)) := by rw [eY]; exact q6s k_n22
            (try replace r1 := Rd.sized (W := X64) (Rd.sset na_r1 (Rd.sset na_r1 (Rd.sset na_r1 (Rd.sset na_r1 (Rd.sset na_r1 (Rd.sset na_r1 r1)))))) eY)
            (try replace r2 := Rd.sized (W := X64) (Rd.sset na_r2 (Rd.sset na_r2 (Rd.sset na_r2 (Rd.sset na_r2 (Rd.sset na_r2 (Rd.sset na_r2 r2)))))) eY)
            clear eY
            refine wpAnyH_done (by kernel_rfl) ?_ _
            go_wp2_with fail
            go_meet
            exact ⟨_, A1, c1, A2, c2, A3, c3, rfl, rfl, rfl, k_n22, k_r, k_s, k_u, k_q, k_both, k_all, k_read, k_place, r1, r2, bw⟩
        case rest =>
          clear k_r k_s k_u k_q k_both k_all k_read k_place bw
          obtain ⟨g_p, A1, c1, A2, c2, A3, c3, rfl, rfl, rfl, k_p, k_r, k_s, k_u, k_q, k_both, k_all, k_read, k_place, R1, R2, BW⟩ := hcut
          have bw := BW.out
          clear BW
          have r1 := R1.out
          have r2 := R2.out
          clear R1 R2
          have q_r := q4c k_r
          have q_s := q4c k_s
          have q_u := q4c k_u
          have q_q := q4c k_q
          have q_both := q4c k_both
          have q_all := q4c k_all
          have q_read := q11c k_read
          have q_place := q11c k_place
          have q_p := q6c k_p
          go_wp2_with fail
          refine ((grayRun_any a b c d N h3 h4 h5 h6 HN.out n cp Z zs 3 3 (some ⟨_, 0, none⟩) [⟨4, 0, 0, ⟨0, 0, 0, 0⟩, p2⟩, ⟨2, x, y, ⟨0, 0, 0, 0⟩, ⟨0, 0, 0, 0⟩⟩, ⟨3, p2.a, p2.b, ⟨0, 0, 0, 0⟩, ⟨0, 0, 0, 0⟩⟩] _ (by have b1 := bsa (o := .cells #[.int .i64 4, .int .i64 0, .int .i64 0, .int .i64 0, .int .i64 0, .int .i64 0, .int .i64 0, .int .i64 p2.a, .int .i64 p2.b, .int .i64 p2.c, .int .i64 p2.d, .int .i64 2, .int .i64 x, .int .i64 y, .int .i64 0, .int .i64 0, .int .i64 0, .int .i64 0, .int .i64 0, .int .i64 0, .int .i64 0, .int .i64 0, .int .i64 3, .int .i64 p2.a, .int .i64 p2.b, .int .i64 0, .int .i64 0, .int .i64 0, .int .i64 0, .int .i64 0, .int .i64 0, .int .i64 0, .int .i64 0] 62) bw; exact (HR.out.below b1).more b1.size) (RdSteps.of_block (ss := [⟨4, 0, 0, ⟨0, 0, 0, 0⟩, p2⟩, ⟨2, x, y, ⟨0, 0, 0, 0⟩, ⟨0, 0, 0, 0⟩⟩, ⟨3, p2.a, p2.b, ⟨0, 0, 0, 0⟩, ⟨0, 0, 0, 0⟩⟩]) (m := 3) (heap_alloc_new _ _) rfl rfl (by decide) OK2.out)).mono (fun _ _ h => h.offs (k := 1) (m := 1) (cs := [rdAt (byt N zs) a b c d x y]) (os := [0]) E2.out.1 rfl E2.out.2.1 E2.out.2.2 rfl)).mono ?_
          rintro e Y66 ⟨A1s, c1s, A2s, c2s, A3s, c3s, rfl, ras, rbs, las, lbs, bc⟩
          clear q_r q_s q_u q_q q_both q_all q_read q_place q_p
          replace bc := bst bc (bsa (Below.refl _ _))
          replace k_r := bk bc k_r
          replace k_s := bk bc k_s
          replace k_u := bk bc k_u
          replace k_q := bk bc k_q
          replace k_both := bk bc k_both
          replace k_all := bk bc k_all
          replace k_read := bk bc k_read
          replace k_place := bk bc k_place
          replace k_p := bk bc k_p
          replace bw := bst bc bw
          (try replace r1 := (r1.below bc).more bc.size)
          (try replace r2 := (r2.below bc).more bc.size)
          (try replace ras := (ras.below bc).more bc.size)
          (try replace rbs := (rbs.below bc).more bc.size)
          clear bc
          have q_r := q4c k_r
          have q_s := q4c k_s
          have q_u := q4c k_u
          have q_q := q4c k_q
          have q_both := q4c k_both
          have q_all := q4c k_all
          have q_read := q11c k_read
          have q_place := q11c k_place
          have q_p := q6c k_p
          go_upto_region 11 with fail
          clear q_r q_s q_u q_q q_both q_all q_read q_place q_p
          obtain ⟨Y67, g_o, eY, eg⟩ : ∃ Y g, Y = Y66.alloc (.cells #[.int .i64 a, .int .i64 b, .int .i64 c, .int .i64 d, .int .i64 (c - a), .slice A3s N c3s] 29) ∧ g = Y66.heap.size := ⟨_, _, rfl, rfl⟩
          rw [← eY, ← eg]
          have bc : Below Y66.heap.size Y66 Y67 := by rw [eY]; exact (Below.refl _ _).alloc (Nat.le_refl _) _
          have k_o : Y67.heap[g_o]? = some (.cells #[.int .i64 a, .int .i64 b, .int .i64 c, .int .i64 d, .int .i64 (c - a), .slice A3s N c3s] 29 (0, 0)) := by rw [eY, eg]; exact heap_alloc_new Y66 _
          replace k_r := bk bc k_r
          replace k_s := bk bc k_s
          replace k_u := bk bc k_u
          replace k_q := bk bc k_q
          replace k_both := bk bc k_both
          replace k_all := bk bc k_all
          replace k_read := bk bc k_read
          replace k_place := bk bc k_place
          replace k_p := bk bc k_p
          replace bw := bst bc bw
          (try replace r1 := (r1.below bc).more bc.size)
          (try replace r2 := (r2.below bc).more bc.size)
          (try replace ras := (ras.below bc).more bc.size)
          (try replace rbs := (rbs.below bc).more bc.size)
          clear bc eY eg
          obtain ⟨bf, of, rfl, _, cf⟩ := r1.2.2.2 (by decide)
          obtain ⟨bs', os', rfl, _, cs'⟩ := ras.2.2.2 (by decide)
          have cf0 : Y67.cell? ⟨bf, of, none⟩ = some (.int .i64 (rdAt (byt N zs) a b c d x y)) := cf 0 (by decide)
          have cs0 : Y67.cell? ⟨bs', os', none⟩ = some (.int .i64 (rdAt (byt N zs) a b c d x y)) := cs' 0 (by decide)
          have hvv : ((rdAt (byt N zs) a b c d x y) == (rdAt (byt N zs) a b c d x y)) = true := by simp
          refine wp_region_held_drew (S := fun w' => w'.cell? ⟨g_q, 0, none⟩ = some (.int .i64 a) ∧ w'.cell? ⟨g_q, 1, none⟩ = some (.int .i64 b) ∧ w'.cell? ⟨g_q, 2, none⟩ = some (.int .i64 c) ∧ w'.cell? ⟨g_q, 3, none⟩ = some (.int .i64 d) ∧ w'.cell? ⟨bf, of, none⟩ = some (.int .i64 (rdAt (byt N zs) a b c d x y)) ∧ w'.cell? ⟨bs', os', none⟩ = some (.int .i64 (rdAt (byt N zs) a b c d x y))) (by kernel_rfl) ⟨(q4c k_q).1.1, (q4c k_q).1.2.1, (q4c k_q).1.2.2.1, (q4c k_q).1.2.2.2, (by assumption), (by assumption)⟩ ?_
          intro hHeld
          obtain ⟨X68, eX, bc⟩ : ∃ X, X = Y67.drew ∧ Below Y67.heap.size Y67 X := ⟨_, rfl, (Below.refl _ _).drew⟩
          rw [← eX] at hHeld ⊢
          replace k_r := bk bc k_r
          replace k_s := bk bc k_s
          replace k_u := bk bc k_u
          replace k_q := bk bc k_q
          replace k_both := bk bc k_both
          replace k_all := bk bc k_all
          replace k_read := bk bc k_read
          replace k_place := bk bc k_place
          replace k_p := bk bc k_p
          replace k_o := bk bc k_o
          replace bw := bst bc bw
          (try replace r1 := (r1.below bc).more bc.size)
          (try replace r2 := (r2.below bc).more bc.size)
          (try replace ras := (ras.below bc).more bc.size)
          (try replace rbs := (rbs.below bc).more bc.size)
          clear eX bc
          refine takx (i := 0) (D := 94) (v := .slice (some ⟨bf, of, none⟩) 1 c1) rfl rfl (by kernel_rfl) (by kernel_rfl) (by kernel_rfl) (fun _ _ _ h => h) (Or.inl ⟨by rfl, fun W hSw => by (try dsimp only at hSw); go_simp⟩) (by assumption) ?_
          (try simp only [List.setIfInBounds_toArray, List.set_cons_zero, List.set_cons_succ])
          refine takx (i := 1) (D := 95) (v := .int .i64 1) rfl rfl (by kernel_rfl) (by kernel_rfl) (by kernel_rfl) (fun _ _ _ h => h) (Or.inl ⟨by rfl, fun W hSw => by (try dsimp only at hSw); go_simp⟩) (by assumption) ?_
          (try simp only [List.setIfInBounds_toArray, List.set_cons_zero, List.set_cons_succ])
          refine takx (i := 2) (D := 96) (v := .bool true) rfl rfl (by kernel_rfl) (by kernel_rfl) (by kernel_rfl) (fun _ _ _ h => h) (Or.inl ⟨by rfl, fun W hSw => by (try dsimp only at hSw); go_simp⟩) (by assumption) ?_
          (try simp only [List.setIfInBounds_toArray, List.set_cons_zero, List.set_cons_succ])
          refine takx (i := 3) (D := 97) (v := .bool true) rfl rfl (by kernel_rfl) (by kernel_rfl) (by kernel_rfl) (fun _ _ _ h => h) (Or.inl ⟨by rfl, fun W hSw => by (try dsimp only at hSw); go_simp⟩) (by assumption) ?_
          (try simp only [List.setIfInBounds_toArray, List.set_cons_zero, List.set_cons_succ])
          refine takx (i := 4) (D := 98) (v := .slice (some ⟨bs', os', none⟩) 1 c1s) rfl rfl (by kernel_rfl) (by kernel_rfl) (by kernel_rfl) (fun _ _ _ h => h) (Or.inl ⟨by rfl, fun W hSw => by (try dsimp only at hSw); go_simp⟩) (by assumption) ?_
          (try simp only [List.setIfInBounds_toArray, List.set_cons_zero, List.set_cons_succ])
          refine takx (i := 5) (D := 99) (v := .int .i64 1) rfl rfl (by kernel_rfl) (by kernel_rfl) (by kernel_rfl) (fun _ _ _ h => h) (Or.inl ⟨by rfl, fun W hSw => by (try dsimp only at hSw); go_simp⟩) (by assumption) ?_
          (try simp only [List.setIfInBounds_toArray, List.set_cons_zero, List.set_cons_succ])
          refine takx (i := 6) (D := 100) (v := .bool true) rfl rfl (by kernel_rfl) (by kernel_rfl) (by kernel_rfl) (fun _ _ _ h => h) (Or.inl ⟨by rfl, fun W hSw => by (try dsimp only at hSw); go_simp⟩) (by assumption) ?_
          (try simp only [List.setIfInBounds_toArray, List.set_cons_zero, List.set_cons_succ])
          refine takx (i := 7) (D := 101) (v := .bool true) rfl rfl (by kernel_rfl) (by kernel_rfl) (by kernel_rfl) (fun _ _ _ h => h) (Or.inl ⟨by rfl, fun W hSw => by (try dsimp only at hSw); go_simp⟩) (by assumption) ?_
          (try simp only [List.setIfInBounds_toArray, List.set_cons_zero, List.set_cons_succ])
          refine takx (i := 8) (D := 102) (v := .bool true) rfl rfl (by kernel_rfl) (by kernel_rfl) (by kernel_rfl) (fun _ _ _ h => h) (Or.inl ⟨by rfl, fun W hSw => by (try dsimp only at hSw); go_simp⟩) (by assumption) ?_
          (try simp only [List.setIfInBounds_toArray, List.set_cons_zero, List.set_cons_succ])
          refine takx (i := 9) (D := 103) (v := .slice (some ⟨bf, of, none⟩) 1 c1) rfl rfl (by kernel_rfl) (by kernel_rfl) (by kernel_rfl) (fun _ _ _ h => h) (Or.inl ⟨by rfl, fun W hSw => by (try dsimp only at hSw); go_simp⟩) (by assumption) ?_
          (try simp only [List.setIfInBounds_toArray, List.set_cons_zero, List.set_cons_succ])
          refine takx (i := 10) (D := 104) (v := .pointer (some ⟨bf, of, none⟩)) rfl rfl (by kernel_rfl) (by kernel_rfl) (by kernel_rfl) (fun _ _ _ h => h) (Or.inl ⟨by rfl, fun W hSw => by (try dsimp only at hSw); go_simp⟩) (by assumption) ?_
          (try simp only [List.setIfInBounds_toArray, List.set_cons_zero, List.set_cons_succ])
          refine takx (i := 11) (D := 105) (v := .int .i64 (rdAt (byt N zs) a b c d x y)) rfl rfl (by kernel_rfl) (by kernel_rfl) (by kernel_rfl) (fun _ _ _ h => h) (Or.inl ⟨by rfl, fun W hSw => by (try dsimp only at hSw); go_simp⟩) (by assumption) ?_
          (try simp only [List.setIfInBounds_toArray, List.set_cons_zero, List.set_cons_succ])
          refine takx (i := 12) (D := 106) (v := .slice (some ⟨bs', os', none⟩) 1 c1s) rfl rfl (by kernel_rfl) (by kernel_rfl) (by kernel_rfl) (fun _ _ _ h => h) (Or.inl ⟨by rfl, fun W hSw => by (try dsimp only at hSw); go_simp⟩) (by assumption) ?_
          (try simp only [List.setIfInBounds_toArray, List.set_cons_zero, List.set_cons_succ])
          refine takx (i := 13) (D := 107) (v := .pointer (some ⟨bs', os', none⟩)) rfl rfl (by kernel_rfl) (by kernel_rfl) (by kernel_rfl) (fun _ _ _ h => h) (Or.inl ⟨by rfl, fun W hSw => by (try dsimp only at hSw); go_simp⟩) (by assumption) ?_
          (try simp only [List.setIfInBounds_toArray, List.set_cons_zero, List.set_cons_succ])
          refine takx (i := 14) (D := 108) (v := .int .i64 (rdAt (byt N zs) a b c d x y)) rfl rfl (by kernel_rfl) (by kernel_rfl) (by kernel_rfl) (fun _ _ _ h => h) (Or.inl ⟨by rfl, fun W hSw => by (try dsimp only at hSw); go_simp⟩) (by assumption) ?_
          (try simp only [List.setIfInBounds_toArray, List.set_cons_zero, List.set_cons_succ])
          refine takx (i := 15) (D := 109) (v := .bool true) rfl rfl (by kernel_rfl) (by kernel_rfl) (by kernel_rfl) (fun _ _ _ h => h) (Or.inl ⟨by rfl, fun W hSw => by (try dsimp only at hSw); go_simp⟩) (by assumption) ?_
          (try simp only [List.setIfInBounds_toArray, List.set_cons_zero, List.set_cons_succ])
          refine takx (i := 16) (D := 110) (v := .bool true) rfl rfl (by kernel_rfl) (by kernel_rfl) (by kernel_rfl) (fun _ _ _ h => h) (Or.inl ⟨by rfl, fun W hSw => by (try dsimp only at hSw); go_simp⟩) (by assumption) ?_
          (try simp only [List.setIfInBounds_toArray, List.set_cons_zero, List.set_cons_succ])
          refine takx (i := 17) (D := 111) (v := .bool true) rfl rfl (by kernel_rfl) (by kernel_rfl) (by kernel_rfl) (fun _ _ _ h => h) (Or.inl ⟨by rfl, fun W hSw => by (try dsimp only at hSw); go_simp⟩) (by assumption) ?_
          (try simp only [List.setIfInBounds_toArray, List.set_cons_zero, List.set_cons_succ])
          refine takx (i := 18) (D := 112) (v := .slice (some ⟨bf, of, none⟩) 1 c1) rfl rfl (by kernel_rfl) (by kernel_rfl) (by kernel_rfl) (fun _ _ _ h => h) (Or.inl ⟨by rfl, fun W hSw => by (try dsimp only at hSw); go_simp⟩) (by assumption) ?_
          (try simp only [List.setIfInBounds_toArray, List.set_cons_zero, List.set_cons_succ])
          refine takx (i := 19) (D := 113) (v := .pointer (some ⟨bf, of, none⟩)) rfl rfl (by kernel_rfl) (by kernel_rfl) (by kernel_rfl) (fun _ _ _ h => h) (Or.inl ⟨by rfl, fun W hSw => by (try dsimp only at hSw); go_simp⟩) (by assumption) ?_
          (try simp only [List.setIfInBounds_toArray, List.set_cons_zero, List.set_cons_succ])
          refine takx (i := 20) (D := 114) (v := .int .i64 (rdAt (byt N zs) a b c d x y)) rfl rfl (by kernel_rfl) (by kernel_rfl) (by kernel_rfl) (fun _ _ _ h => h) (Or.inl ⟨by rfl, fun W hSw => by (try dsimp only at hSw); go_simp⟩) (by assumption) ?_
          (try simp only [List.setIfInBounds_toArray, List.set_cons_zero, List.set_cons_succ])
          refine takx (i := 21) (D := 115) (v := .agg #[.int .i64 a, .int .i64 b, .int .i64 c, .int .i64 d]) rfl rfl (by kernel_rfl) (by kernel_rfl) (by kernel_rfl) (fun _ _ _ h => h) (Or.inl ⟨by rfl, fun W hSw => by (try dsimp only at hSw); go_simp⟩) (by assumption) ?_
          (try simp only [List.setIfInBounds_toArray, List.set_cons_zero, List.set_cons_succ])
          refine takx (i := 22) (D := 116) (v := .slice Z n cp) rfl rfl (by kernel_rfl) (by kernel_rfl) (by kernel_rfl) (fun _ _ _ h => h) (Or.inl ⟨by rfl, fun W hSw => by (try dsimp only at hSw); go_simp⟩) (by assumption) ?_
          (try simp only [List.setIfInBounds_toArray, List.set_cons_zero, List.set_cons_succ])
          refine takx (i := 23) (D := 117) (v := .int .i64 x) rfl rfl (by kernel_rfl) (by kernel_rfl) (by kernel_rfl) (fun _ _ _ h => h) (Or.inl ⟨by rfl, fun W hSw => by (try dsimp only at hSw); go_simp⟩) (by assumption) ?_
          (try simp only [List.setIfInBounds_toArray, List.set_cons_zero, List.set_cons_succ])
          refine takx (i := 24) (D := 118) (v := .int .i64 y) rfl rfl (by kernel_rfl) (by kernel_rfl) (by kernel_rfl) (fun _ _ _ h => h) (Or.inl ⟨by rfl, fun W hSw => by (try dsimp only at hSw); go_simp⟩) (by assumption) ?_
          (try simp only [List.setIfInBounds_toArray, List.set_cons_zero, List.set_cons_succ])
          refine wpAnyH_ready (rs := [25]) (by kernel_rfl) (by simp) ?_
          refine (AllReadyH.cons rfl (fun K hK => ?_) AllReadyH.nil)
          go_simp
          refine (grayRead_any a b c d N h3 h4 h5 h6 HN.out n cp Z zs x y _ ((HR.out.below bw).more bw.size)).mono ?_
          rintro e X69 ⟨rfl, bc⟩
          refine hK.out _ _ ⟨ck bc hHeld.1, ck bc hHeld.2.1, ck bc hHeld.2.2.1, ck bc hHeld.2.2.2.1, ck bc hHeld.2.2.2.2.1, ck bc hHeld.2.2.2.2.2⟩ (fun hHeld => ?_)
          clear hK K
          (try simp only [List.setIfInBounds_toArray, List.set_cons_zero, List.set_cons_succ])
          replace k_r := bk bc k_r
          replace k_s := bk bc k_s
          replace k_u := bk bc k_u
          replace k_q := bk bc k_q
          replace k_both := bk bc k_both
          replace k_all := bk bc k_all
          replace k_read := bk bc k_read
          replace k_place := bk bc k_place
          replace k_p := bk bc k_p
          replace k_o := bk bc k_o
          replace bw := bst bc bw
          (try replace r1 := (r1.below bc).more bc.size)
          (try replace r2 := (r2.below bc).more bc.size)
          (try replace ras := (ras.below bc).more bc.size)
          (try replace rbs := (rbs.below bc).more bc.size)
          clear bc
          refine takx (i := 26) (D := 120) (v := .bool true) rfl rfl (by kernel_rfl) (by kernel_rfl) (by kernel_rfl) (fun _ _ _ h => h) (Or.inl ⟨by rfl, fun W hSw => by (try dsimp only at hSw); go_simp⟩) (by assumption) ?_
          (try simp only [List.setIfInBounds_toArray, List.set_cons_zero, List.set_cons_succ])
          refine takx (i := 27) (D := 121) (v := .bool true) rfl rfl (by kernel_rfl) (by kernel_rfl) (by kernel_rfl) (fun _ _ _ h => h) (Or.inl ⟨by rfl, fun W hSw => by (try dsimp only at hSw); go_simp⟩) (by assumption) ?_
          (try simp only [List.setIfInBounds_toArray, List.set_cons_zero, List.set_cons_succ])
          refine takx (i := 28) (D := 122) (v := .bool true) rfl rfl (by kernel_rfl) (by kernel_rfl) (by kernel_rfl) (fun _ _ _ h => h) (Or.inl ⟨by rfl, fun W hSw => by (try dsimp only at hSw); go_simp⟩) (by assumption) ?_
          (try simp only [List.setIfInBounds_toArray, List.set_cons_zero, List.set_cons_succ])
          refine takx (i := 29) (D := 123) (v := .slice A2 1 c2) rfl rfl (by kernel_rfl) (by kernel_rfl) (by kernel_rfl) (fun _ _ _ h => h) (Or.inl ⟨by rfl, fun W hSw => by (try dsimp only at hSw); go_simp⟩) (by assumption) ?_
          (try simp only [List.setIfInBounds_toArray, List.set_cons_zero, List.set_cons_succ])
          refine wpAnyH_ready (rs := [30]) (by kernel_rfl) (by simp) ?_
          refine (AllReadyH.cons rfl (fun K hK => ?_) AllReadyH.nil)
          go_simp
          refine hK.out _ _ ⟨cka hHeld.1, cka hHeld.2.1, cka hHeld.2.2.1, cka hHeld.2.2.2.1, cka hHeld.2.2.2.2.1, cka hHeld.2.2.2.2.2⟩ (fun hHeld => ?_)
          clear hK K
          (try simp only [List.setIfInBounds_toArray, List.set_cons_zero, List.set_cons_succ])
          obtain ⟨X70, g70, eY, eg⟩ : ∃ Y g, Y = X69.alloc (.cells #[.int .i64 0] 3) ∧ g = X69.heap.size := ⟨_, _, rfl, rfl⟩
          rw [← eY, ← eg]
          rw [← eY] at hHeld
          have bc : Below X69.heap.size X69 X70 := by rw [eY]; exact (Below.refl _ _).alloc (Nat.le_refl _) _
          have k_n124 : X70.heap[g70]? = some (.cells #[.int .i64 0] 3 (0, 0)) := by rw [eY, eg]; exact heap_alloc_new X69 _
          replace k_r := bk bc k_r
          replace k_s := bk bc k_s
          replace k_u := bk bc k_u
          replace k_q := bk bc k_q
          replace k_both := bk bc k_both
          replace k_all := bk bc k_all
          replace k_read := bk bc k_read
          replace k_place := bk bc k_place
          replace k_p := bk bc k_p
          replace k_o := bk bc k_o
          replace bw := bst bc bw
          (try replace r1 := (r1.below bc).more bc.size)
          (try replace r2 := (r2.below bc).more bc.size)
          (try replace ras := (ras.below bc).more bc.size)
          (try replace rbs := (rbs.below bc).more bc.size)
          clear bc eY eg
          refine wpAnyH_ready (rs := [31]) (by kernel_rfl) (by simp) ?_
          refine (AllReadyH.cons rfl (fun K hK => ?_) AllReadyH.nil)
          go_simp
          refine (same_b _ _ _ _ _ [0] _ r2 (Rd.of_block1 k_n124)).mono ?_
          rintro e X71 ⟨rfl, bc⟩
          refine hK.out _ _ ⟨ck bc hHeld.1, ck bc hHeld.2.1, ck bc hHeld.2.2.1, ck bc hHeld.2.2.2.1, ck bc hHeld.2.2.2.2.1, ck bc hHeld.2.2.2.2.2⟩ (fun hHeld => ?_)
          clear hK K
          (try simp only [List.setIfInBounds_toArray, List.set_cons_zero, List.set_cons_succ])
          replace k_r := bk bc k_r
          replace k_s := bk bc k_s
          replace k_u := bk bc k_u
          replace k_q := bk bc k_q
          replace k_both := bk bc k_both
          replace k_all := bk bc k_all
          replace k_read := bk bc k_read
          replace k_place := bk bc k_place
          replace k_p := bk bc k_p
          replace k_o := bk bc k_o
          replace k_n124 := bk bc k_n124
          replace bw := bst bc bw
          (try replace r1 := (r1.below bc).more bc.size)
          (try replace r2 := (r2.below bc).more bc.size)
          (try replace ras := (ras.below bc).more bc.size)
          (try replace rbs := (rbs.below bc).more bc.size)
          clear bc
          refine takx (i := 32) (D := 126) (v := .bool true) rfl rfl (by kernel_rfl) (by kernel_rfl) (by kernel_rfl) (fun _ _ _ h => h) (Or.inl ⟨by rfl, fun W hSw => by (try dsimp only at hSw); go_simp⟩) (by assumption) ?_
          (try simp only [List.setIfInBounds_toArray, List.set_cons_zero, List.set_cons_succ])
          refine takx (i := 33) (D := 127) (v := .bool true) rfl rfl (by kernel_rfl) (by kernel_rfl) (by kernel_rfl) (fun _ _ _ h => h) (Or.inl ⟨by rfl, fun W hSw => by (try dsimp only at hSw); go_simp⟩) (by assumption) ?_
          (try simp only [List.setIfInBounds_toArray, List.set_cons_zero, List.set_cons_succ])
          refine takx (i := 34) (D := 128) (v := .slice A2s 1 c2s) rfl rfl (by kernel_rfl) (by kernel_rfl) (by kernel_rfl) (fun _ _ _ h => h) (Or.inl ⟨by rfl, fun W hSw => by (try dsimp only at hSw); go_simp⟩) (by assumption) ?_
          (try simp only [List.setIfInBounds_toArray, List.set_cons_zero, List.set_cons_succ])
          refine wpAnyH_ready (rs := [35]) (by kernel_rfl) (by simp) ?_
          refine (AllReadyH.cons rfl (fun K hK => ?_) AllReadyH.nil)
          go_simp
          refine hK.out _ _ ⟨cka hHeld.1, cka hHeld.2.1, cka hHeld.2.2.1, cka hHeld.2.2.2.1, cka hHeld.2.2.2.2.1, cka hHeld.2.2.2.2.2⟩ (fun hHeld => ?_)
          clear hK K
          (try simp only [List.setIfInBounds_toArray, List.set_cons_zero, List.set_cons_succ])
          obtain ⟨X72, g72, eY, eg⟩ : ∃ Y g, Y = X71.alloc (.cells #[.int .i64 0] 3) ∧ g = X71.heap.size := ⟨_, _, rfl, rfl⟩
          rw [← eY, ← eg]
          rw [← eY] at hHeld
          have bc : Below X71.heap.size X71 X72 := by rw [eY]; exact (Below.refl _ _).alloc (Nat.le_refl _) _
          have k_n129 : X72.heap[g72]? = some (.cells #[.int .i64 0] 3 (0, 0)) := by rw [eY, eg]; exact heap_alloc_new X71 _
          have ne_n129_n124 : ¬ g72 = g70 := fun e => ne_new k_n124 eg e.symm
          replace k_r := bk bc k_r
          replace k_s := bk bc k_s
          replace k_u := bk bc k_u
          replace k_q := bk bc k_q
          replace k_both := bk bc k_both
          replace k_all := bk bc k_all
          replace k_read := bk bc k_read
          replace k_place := bk bc k_place
          replace k_p := bk bc k_p
          replace k_o := bk bc k_o
          replace k_n124 := bk bc k_n124
          replace bw := bst bc bw
          (try replace r1 := (r1.below bc).more bc.size)
          (try replace r2 := (r2.below bc).more bc.size)
          (try replace ras := (ras.below bc).more bc.size)
          (try replace rbs := (rbs.below bc).more bc.size)
          clear bc eY eg
          refine wpAnyH_ready (rs := [36]) (by kernel_rfl) (by simp) ?_
          refine (AllReadyH.cons rfl (fun K hK => ?_) AllReadyH.nil)
          go_simp
          refine (same_b _ _ _ _ _ [0] _ rbs (Rd.of_block1 k_n129)).mono ?_
          rintro e X73 ⟨rfl, bc⟩
          refine hK.out _ _ ⟨ck bc hHeld.1, ck bc hHeld.2.1, ck bc hHeld.2.2.1, ck bc hHeld.2.2.2.1, ck bc hHeld.2.2.2.2.1, ck bc hHeld.2.2.2.2.2⟩ (fun hHeld => ?_)
          clear hK K
          (try simp only [List.setIfInBounds_toArray, List.set_cons_zero, List.set_cons_succ])
          replace k_r := bk bc k_r
          replace k_s := bk bc k_s
          replace k_u := bk bc k_u
          replace k_q := bk bc k_q
          replace k_both := bk bc k_both
          replace k_all := bk bc k_all
          replace k_read := bk bc k_read
          replace k_place := bk bc k_place
          replace k_p := bk bc k_p
          replace k_o := bk bc k_o
          replace k_n124 := bk bc k_n124
          replace k_n129 := bk bc k_n129
          replace bw := bst bc bw
          (try replace r1 := (r1.below bc).more bc.size)
          (try replace r2 := (r2.below bc).more bc.size)
          (try replace ras := (ras.below bc).more bc.size)
          (try replace rbs := (rbs.below bc).more bc.size)
          clear bc
          refine takx (i := 37) (D := 131) (v := .bool true) rfl rfl (by kernel_rfl) (by kernel_rfl) (by kernel_rfl) (fun _ _ _ h => h) (Or.inl ⟨by rfl, fun W hSw => by (try dsimp only at hSw); go_simp⟩) (by assumption) ?_
          (try simp only [List.setIfInBounds_toArray, List.set_cons_zero, List.set_cons_succ])
          refine takx (i := 38) (D := 12) (v := .bool true) rfl rfl (by kernel_rfl) (by kernel_rfl) (by kernel_rfl) (fun _ _ _ h => h) (Or.inl ⟨by rfl, fun W hSw => by (try dsimp only at hSw); go_simp⟩) (by assumption) ?_
          (try simp only [List.setIfInBounds_toArray, List.set_cons_zero, List.set_cons_succ])
          refine wpAnyH_done (by kernel_rfl) ?_ _
          clear hHeld
          go_wp2
          go_ret
          first | exact ⟨rfl, bw⟩ | exact ⟨trivial, bw⟩

end Go.Proofs.Ytpijljokcoocpaa

/-
  The walk of the law FnNRGBAKeepsArgument. No condition.
-/
import Derived.Test.YtkhofahobcegiaaNH1
import Derived.Test.YtkhofahobcegiaaNPL
import Derived.Test.YtkhofahobcegiaaX1
import Derived.Test.YtkhofahobcegiaaNR6
namespace Go.Proofs.Ytkhofahobcegiaa
open Go.ChangeShapes Go.WideShapes Go.ChangeAt Go.RowKit
set_option linter.unusedVariables false
set_option linter.unusedSimpArgs false

theorem app_nil (ty cp : Nat) (W : World) : (Builtin.append_ #[24, 24] ty #[.slice none 0 0, .slice none 0 cp]).run Try.prog W = .ok (.slice none 0 0) W := by
  obtain ⟨i0, hi, hz0, hz1, hz2⟩ := info_parts (show (Try.prog.info? 3).map (fun i => (i.zero, i.size, i.bytes)) = some (some (.int .i64 0), 1, 8) from by kernel_rfl)
  simp [Builtin.append_, run_underlying Try.underlying24, sizeOf, typeInfo, hi, Builtin.lenOf, Builtin.firstCells]
theorem painted_whole {R : Q4} {bs : List Int} {x y : Int} {z : Q4} : painted R (some R) bs x y z = wrAt bs R.a R.b R.c R.d x y z := by
  by_cases h : In R.a R.b R.c R.d x y
  · exact painted_in h
  · rw [wrAt_out h]; unfold painted; rw [if_neg (fun k => h (vis_some.1 k))]
theorem same_b (A1 A2 : Option Addr) (n c1 c2 : Nat) (zs : List Int) (w : World) (h1 : Rd w w.heap.size A1 n zs) (h2 : Rd w w.heap.size A2 n zs) :
    Calls Try.prog 28 #[.slice A1 n c1, .slice A2 n c2] w fun e w' => e = .returned (.bool true) ∧ Below w.heap.size w w' :=
  (same_true A1 A2 n c1 c2 _ _ zs w h1 h2).mono fun _ _ ⟨h, k, hk⟩ => ⟨h, by rw [hk]; exact below_drewN (Below.refl _ _) k⟩

set_option maxRecDepth 100000 in
set_option maxHeartbeats 4000000 in
theorem fnNRGBAKeepsArgument_walk (w : World) (q : Q4) (hq : q.ok) (Z : Option Addr) (n cp : Nat) (zs : List Int) (hr : Rd w w.heap.size Z n zs) (x : Int) (hx : I64 x) (y : Int) (hy : I64 y) (z : Q4) (hz : z.ok) :
    Calls Try.prog 4 #[q.val, .slice Z n cp, .int .i64 x, .int .i64 y, z.val] w fun e w' => e = .returned (.bool true) ∧ Below w.heap.size w w' := by
  obtain ⟨a, b, c, d⟩ := q
  obtain ⟨ha, hb, hc, hd⟩ := hq
  show Calls Try.prog 4 #[.agg #[.int .i64 a, .int .i64 b, .int .i64 c, .int .i64 d], .slice Z n cp, .int .i64 x, .int .i64 y, .agg #[.int .i64 z.a, .int .i64 z.b, .int .i64 z.c, .int .i64 z.d]] w _
  have hrs := rect_same a b c d
  have hrd := rect_diff a b c d
  have hp0 := fun st v => pfld0 a b c d st v
  have hp2 := fun st A n cp => pfld2 a b c d st A n cp
  have HR := Lib.hid hr
  clear hr
  by_cases hf : Fine a b c d
  case neg =>
    have HF := Lib.hid hf
    clear hf
    go_enter Try.func4, Try.ntmps4
    go_upto_region 1 with fail
    obtain ⟨W, hW⟩ : ∃ W, W = ((w.alloc (.cells #[.int .i64 a, .int .i64 b, .int .i64 c, .int .i64 d] 23)).alloc (.cells #[.int .i64 z.a, .int .i64 z.b, .int .i64 z.c, .int .i64 z.d] 44)) := ⟨_, rfl⟩
    have bw : Below w.heap.size w W := by rw [hW]; exact (bsa (bsa (Below.refl _ _)))
    have k_r : W.heap[w.heap.size]? = some (.cells #[.int .i64 a, .int .i64 b, .int .i64 c, .int .i64 d] 23 (0, 0)) := by rw [hW]; exact bka (heap_alloc_new w _)
    have k_c : W.heap[w.heap.size + 1]? = some (.cells #[.int .i64 z.a, .int .i64 z.b, .int .i64 z.c, .int .i64 z.d] 44 (0, 0)) := by rw [hW]; exact heap_new2 w _ _
    rw [← hW]
    clear hW
    have q_r := q4c k_r
    have q_c := q4c k_c
    go_wp2_with fail
    refine (fine_no a b c d ha hb hc hd HF.out _).mono ?_
    rintro e Y1 ⟨rfl, bc⟩
    clear q_r q_c
    replace k_r := bk bc k_r
    replace k_c := bk bc k_c
    replace bw := bst bc bw
    clear bc
    go_wp2
    go_ret
    first | exact ⟨rfl, bw⟩ | exact ⟨trivial, bw⟩
  obtain ⟨h3, h4, h5, h6, M, hM⟩ := fine_area hf
  obtain ⟨N, hN⟩ : ∃ N : Nat, 4 * (c - a) * (d - b) = N := ⟨4 * M, by rw [Int.mul_assoc, hM]; omega⟩
  have HF := Lib.hid hf
  have HN := Lib.hid hN
  have HM := Lib.hid hM
  clear hf hN hM
  have OK1 := Lib.hid (show ∀ u ∈ [(⟨1, x, y, z, ⟨0, 0, 0, 0⟩⟩ : Stp)], u.ok by
    intro u hu
    rw [List.mem_singleton] at hu
    subst hu
    refine ⟨?_, ?_, ?_, ?_, ?_⟩ <;> first | assumption | exact ⟨zero_ok, zero_ok, zero_ok, zero_ok⟩ | exact ⟨hz, zero_ok, zero_ok, zero_ok⟩ | (unfold I64; dsimp only; omega))
  have E1 := Lib.hid (show (grun ⟨a, b, c, d⟩ (gini ⟨a, b, c, d⟩ (byt N zs)) [⟨1, x, y, z, ⟨0, 0, 0, 0⟩⟩]).cs = [] ∧ (grun ⟨a, b, c, d⟩ (gini ⟨a, b, c, d⟩ (byt N zs)) [⟨1, x, y, z, ⟨0, 0, 0, 0⟩⟩]).bs = wrAt (byt N zs) a b c d x y z by
    rw [run_cons, gstep1 _ _ _ rfl, run_nil]
    simp only [gini]
    first | exact ⟨rfl, painted_whole⟩ | exact ⟨trivial, painted_whole⟩)
  go_enter Try.func4, Try.ntmps4
  go_upto_region 1 with fail
  obtain ⟨W, hW⟩ : ∃ W, W = ((w.alloc (.cells #[.int .i64 a, .int .i64 b, .int .i64 c, .int .i64 d] 23)).alloc (.cells #[.int .i64 z.a, .int .i64 z.b, .int .i64 z.c, .int .i64 z.d] 44)) := ⟨_, rfl⟩
  have bw : Below w.heap.size w W := by rw [hW]; exact (bsa (bsa (Below.refl _ _)))
  have k_r : W.heap[w.heap.size]? = some (.cells #[.int .i64 a, .int .i64 b, .int .i64 c, .int .i64 d] 23 (0, 0)) := by rw [hW]; exact bka (heap_alloc_new w _)
  have k_c : W.heap[w.heap.size + 1]? = some (.cells #[.int .i64 z.a, .int .i64 z.b, .int .i64 z.c, .int .i64 z.d] 44 (0, 0)) := by rw [hW]; exact heap_new2 w _ _
  rw [← hW]
  clear hW
  have q_r := q4c k_r
  have q_c := q4c k_c
  go_wp2_with fail
  refine (fine_yes a b c d HF.out _).mono ?_
  rintro e Y1 ⟨rfl, bc⟩
  clear q_r q_c
  replace k_r := bk bc k_r
  replace k_c := bk bc k_c
  replace bw := bst bc bw
  clear bc
  have q_r := q4c k_r
  have q_c := q4c k_c
  go_wp2_with fail
  refine (toRect4 a b c d _).mono ?_
  rintro e Y2 ⟨rfl, bc⟩
  clear q_r q_c
  replace k_r := bk bc k_r
  replace k_c := bk bc k_c
  replace bw := bst bc bw
  clear bc
  have q_r := q4c k_r
  have q_c := q4c k_c
  go_upto_region 4 with fail
  clear q_r q_c
  obtain ⟨Y3, g_q, eY, eg⟩ : ∃ Y g, Y = Y2.alloc (.cells #[.int .i64 a, .int .i64 b, .int .i64 c, .int .i64 d] 25) ∧ g = Y2.heap.size := ⟨_, _, rfl, rfl⟩
  rw [← eY, ← eg]
  have bc : Below Y2.heap.size Y2 Y3 := by rw [eY]; exact (Below.refl _ _).alloc (Nat.le_refl _) _
  have k_q : Y3.heap[g_q]? = some (.cells #[.int .i64 a, .int .i64 b, .int .i64 c, .int .i64 d] 25 (0, 0)) := by rw [eY, eg]; exact heap_alloc_new Y2 _
  replace k_r := bk bc k_r
  replace k_c := bk bc k_c
  replace bw := bst bc bw
  clear bc eY eg
  go_cut [12] (fun s12 wx => ∃ (A0 : Option Addr) (c0 : Nat), s12 = .slice A0 n c0 ∧ wx.heap[w.heap.size]? = some (.cells #[.int .i64 a, .int .i64 b, .int .i64 c, .int .i64 d] 23 (0, 0)) ∧ wx.heap[w.heap.size + 1]? = some (.cells #[.int .i64 z.a, .int .i64 z.b, .int .i64 z.c, .int .i64 z.d] 44 (0, 0)) ∧ wx.heap[g_q]? = some (.cells #[.int .i64 a, .int .i64 b, .int .i64 c, .int .i64 d] 25 (0, 0)) ∧ Hid (Rd wx wx.heap.size A0 n zs) ∧ Hid (Below w.heap.size w wx))
  case first =>
    have RX := Lib.hid ((HR.out.below bw).more bw.size)
    cases Z with
    | none =>
      obtain rfl : n = 0 := by
        rcases Nat.eq_zero_or_pos n with h | h
        · exact h
        · obtain ⟨_, _, hA, _⟩ := RX.out.2.2.2 h
          cases hA
      have hap := fun ty W => app_nil ty cp W
      go_wp2_with fail
      go_meet
      exact ⟨none, 0, rfl, k_r, k_c, k_q, by have := RX.out; rw [List.eq_nil_of_length_eq_zero this.1]; exact Rd.nil _ _ _, bw⟩
    | some ad =>
      have hn8 : n * 8 ≤ 140737488355328 := RX.out.2.1
      obtain ⟨i0, hi, hz0, hz1, hz2⟩ := info_parts (show (Try.prog.info? 3).map (fun i => (i.zero, i.size, i.bytes)) = some (some (.int .i64 0), 1, 8) from by kernel_rfl)
      go_wp2_with (first
        | (at_builtin; refine wpList_append_own _ rfl _ _ 24 rfl Y3.heap.size 3 i0 (.int .i64 0) 1 8 Try.underlying24 hi hz0 hz1 hz2 rfl (by decide) (.slice none 0 0) 0 [] rfl (World.ownsRow_nil _ _ _ _) ad n cp (zs.map (Value.int .i64)) rfl ?c0 ?c1 ?c2 ?c3 ?c4 ?c5 ?_))
      case c0 => simp [RX.out.1]
      case c1 =>
        intro j u hj
        have hjn : j < n := by have := (List.getElem?_eq_some_iff.1 hj).1; rw [List.length_map, RX.out.1] at this; exact this
        obtain ⟨b', off', hA, _, hc'⟩ := RX.out.2.2.2 (by omega)
        injection hA with hA
        subst hA
        rw [Addr.add_lit, hc' j hjn]
        rw [← hj]
        simp [List.getD, show j < zs.length by rw [RX.out.1]; exact hjn]
      case c2 => intro u hu; obtain ⟨v, _, rfl⟩ := List.mem_map.1 hu; rfl
      case c3 => unfold maxLen; omega
      case c4 => omega
      case c5 => exact Nat.le_refl _
      intro v' Y hown' hgrow _
      have bc : Below Y3.heap.size Y3 Y := (Below.refl _ _).grown hgrow (Nat.le_refl _) (by intro j hj; cases hj)
      (try simp only [List.nil_append, Nat.zero_add] at hown')
      obtain ⟨A0, c0, rfl, r0, lo0⟩ := Rd.of_own hown' hn8 RX.out.2.2.1
      have R0 := Lib.hid r0
      clear hown' hgrow r0
      go_wp2_with fail
      go_meet
      exact ⟨A0, c0, rfl, bk bc k_r, bk bc k_c, bk bc k_q, R0, bst bc bw⟩
  case rest =>
    clear bw k_r k_c k_q
    obtain ⟨A0, c0, rfl, k_r, k_c, k_q, R0, BW⟩ := hcut
    have bw := BW.out
    have r0 := R0.out
    clear BW R0
    have q_r := q4c k_r
    have q_c := q4c k_c
    have q_q := q4c k_q
    go_upto_region 5 with fail
    clear q_r q_c q_q
    go_cut [13] (fun s13 wx => ∃ (g_p : Nat) (A1 : Option Addr) (cp1 : Nat), s13 = .pointer (some ⟨g_p, 0, none⟩) ∧ wx.heap[g_p]? = some (.cells #[.int .i64 a, .int .i64 b, .int .i64 c, .int .i64 d, .int .i64 (4 * (c - a)), .slice A1 N cp1] 37 (0, 0)) ∧ wx.heap[w.heap.size]? = some (.cells #[.int .i64 a, .int .i64 b, .int .i64 c, .int .i64 d] 23 (0, 0)) ∧ wx.heap[w.heap.size + 1]? = some (.cells #[.int .i64 z.a, .int .i64 z.b, .int .i64 z.c, .int .i64 z.d] 44 (0, 0)) ∧ wx.heap[g_q]? = some (.cells #[.int .i64 a, .int .i64 b, .int .i64 c, .int .i64 d] 25 (0, 0)) ∧ Hid (Rd wx wx.heap.size A0 n zs) ∧ Hid (Rd wx wx.heap.size A1 N (wrAt (byt N zs) a b c d x y z)) ∧ Hid (Below w.heap.size w wx))
    case first =>
      refine wp_region_held_drew (S := fun w' => w'.cell? ⟨g_q, 0, none⟩ = some (.int .i64 a) ∧ w'.cell? ⟨g_q, 1, none⟩ = some (.int .i64 b) ∧ w'.cell? ⟨g_q, 2, none⟩ = some (.int .i64 c) ∧ w'.cell? ⟨g_q, 3, none⟩ = some (.int .i64 d) ∧ w'.cell? ⟨w.heap.size + 1, 0, none⟩ = some (.int .i64 z.a) ∧ w'.cell? ⟨w.heap.size + 1, 1, none⟩ = some (.int .i64 z.b) ∧ w'.cell? ⟨w.heap.size + 1, 2, none⟩ = some (.int .i64 z.c) ∧ w'.cell? ⟨w.heap.size + 1, 3, none⟩ = some (.int .i64 z.d)) (by kernel_rfl) ⟨(q4c k_q).1.1, (q4c k_q).1.2.1, (q4c k_q).1.2.2.1, (q4c k_q).1.2.2.2, (q4c k_c).1.1, (q4c k_c).1.2.1, (q4c k_c).1.2.2.1, (q4c k_c).1.2.2.2⟩ ?_
      intro hHeld
      obtain ⟨X4, eX, bc⟩ : ∃ X, X = wc.drew ∧ Below wc.heap.size wc X := ⟨_, rfl, (Below.refl _ _).drew⟩
      rw [← eX] at hHeld ⊢
      replace k_r := bk bc k_r
      replace k_c := bk bc k_c
      replace k_q := bk bc k_q
      replace bw := bst bc bw
      (try replace r0 := (r0.below bc).more bc.size)
      (try replace r1 := (r1.below bc).more bc.size)
      (try replace raf := (raf.below bc).more bc.size)
      (try replace rbf := (rbf.below bc).more bc.size)
      clear eX bc
      refine takx (i := 0) (D := 24) (v := .agg #[.int .i64 a, .int .i64 b, .int .i64 c, .int .i64 d]) rfl rfl (by kernel_rfl) (by kernel_rfl) (by kernel_rfl) (fun _ _ _ h => h) (Or.inl ⟨by rfl, fun W hSw => by (try dsimp only at hSw); go_simp⟩) (by assumption) ?_
      (try simp only [List.setIfInBounds_toArray, List.set_cons_zero, List.set_cons_succ])
      refine takx (i := 1) (D := 25) (v := .slice A0 n c0) rfl rfl (by kernel_rfl) (by kernel_rfl) (by kernel_rfl) (fun _ _ _ h => h) (Or.inl ⟨by rfl, fun W hSw => by (try dsimp only at hSw); go_simp⟩) (by assumption) ?_
      (try simp only [List.setIfInBounds_toArray, List.set_cons_zero, List.set_cons_succ])
      refine takx (i := 2) (D := 26) (v := .int .i64 x) rfl rfl (by kernel_rfl) (by kernel_rfl) (by kernel_rfl) (fun _ _ _ h => h) (Or.inl ⟨by rfl, fun W hSw => by (try dsimp only at hSw); go_simp⟩) (by assumption) ?_
      (try simp only [List.setIfInBounds_toArray, List.set_cons_zero, List.set_cons_succ])
      refine takx (i := 3) (D := 27) (v := .int .i64 y) rfl rfl (by kernel_rfl) (by kernel_rfl) (by kernel_rfl) (fun _ _ _ h => h) (Or.inl ⟨by rfl, fun W hSw => by (try dsimp only at hSw); go_simp⟩) (by assumption) ?_
      (try simp only [List.setIfInBounds_toArray, List.set_cons_zero, List.set_cons_succ])
      refine takx (i := 4) (D := 28) (v := .agg #[.int .i64 z.a, .int .i64 z.b, .int .i64 z.c, .int .i64 z.d]) rfl rfl (by kernel_rfl) (by kernel_rfl) (by kernel_rfl) (fun _ _ _ h => h) (Or.inl ⟨by rfl, fun W hSw => by (try dsimp only at hSw); go_simp⟩) (by assumption) ?_
      (try simp only [List.setIfInBounds_toArray, List.set_cons_zero, List.set_cons_succ])
      refine wpAnyH_ready (rs := [5, 7]) (by kernel_rfl) (by simp) ?_
      refine (AllReadyH.cons rfl (fun K hK => ?_) (AllReadyH.cons rfl (fun K hK => ?_) AllReadyH.nil))
      · go_simp
        refine (toColor4 z.a z.b z.c z.d _).mono ?_
        rintro e X5 ⟨rfl, bc⟩
        refine hK.out _ _ ⟨ck bc hHeld.1, ck bc hHeld.2.1, ck bc hHeld.2.2.1, ck bc hHeld.2.2.2.1, ck bc hHeld.2.2.2.2.1, ck bc hHeld.2.2.2.2.2.1, ck bc hHeld.2.2.2.2.2.2.1, ck bc hHeld.2.2.2.2.2.2.2⟩ (fun hHeld => ?_)
        clear hK K
        (try simp only [List.setIfInBounds_toArray, List.set_cons_zero, List.set_cons_succ])
        replace k_r := bk bc k_r
        replace k_c := bk bc k_c
        replace k_q := bk bc k_q
        replace bw := bst bc bw
        (try replace r0 := (r0.below bc).more bc.size)
        (try replace r1 := (r1.below bc).more bc.size)
        (try replace raf := (raf.below bc).more bc.size)
        (try replace rbf := (rbf.below bc).more bc.size)
        clear bc
        refine wpAnyH_ready (rs := [6, 7]) (by kernel_rfl) (by simp) ?_
        refine (AllReadyH.cons rfl (fun K hK => ?_) (AllReadyH.cons rfl (fun K hK => ?_) AllReadyH.nil))
        · go_simp
          refine (nrgbaWrite_any a b c d N h3 h4 h5 h6 HN.out n c0 A0 (zs) x y z _ r0).mono ?_
          rintro e X6 ⟨A1, cp1, rfl, r1, lo1, bc⟩
          refine hK.out _ _ ⟨ck bc hHeld.1, ck bc hHeld.2.1, ck bc hHeld.2.2.1, ck bc hHeld.2.2.2.1, ck bc hHeld.2.2.2.2.1, ck bc hHeld.2.2.2.2.2.1, ck bc hHeld.2.2.2.2.2.2.1, ck bc hHeld.2.2.2.2.2.2.2⟩ (fun hHeld => ?_)
          clear hK K
          (try simp only [List.setIfInBounds_toArray, List.set_cons_zero, List.set_cons_succ])
          replace k_r := bk bc k_r
          replace k_c := bk bc k_c
          replace k_q := bk bc k_q
          replace bw := bst bc bw
          (try replace r0 := (r0.below bc).more bc.size)
          (try replace r1 := (r1.below bc).more bc.size)
          (try replace raf := (raf.below bc).more bc.size)
          (try replace rbf := (rbf.below bc).more bc.size)
          clear bc
          refine wpAnyH_ready (rs := [7]) (by kernel_rfl) (by simp) ?_
          refine (AllReadyH.cons rfl (fun K hK => ?_) AllReadyH.nil)
          go_simp
          refine hK.out _ _ ⟨cka hHeld.1, cka hHeld.2.1, cka hHeld.2.2.1, cka hHeld.2.2.2.1, cka hHeld.2.2.2.2.1, cka hHeld.2.2.2.2.2.1, cka hHeld.2.2.2.2.2.2.1, cka hHeld.2.2.2.2.2.2.2⟩ (fun hHeld => ?_)
          clear hK K
          (try simp only [List.setIfInBounds_toArray, List.set_cons_zero, List.set_cons_succ])
          obtain ⟨X7, g7, eY, eg⟩ : ∃ Y g, Y = X6.alloc (.cells #[.int .i64 0, .int .i64 0, .int .i64 0, .int .i64 0, .int .i64 0, .slice none 0 0] 37) ∧ g = X6.heap.size := ⟨_, _, rfl, rfl⟩
          rw [← eY, ← eg]
          rw [← eY] at hHeld
          have bc : Below X6.heap.size X6 X7 := by rw [eY]; exact (Below.refl _ _).alloc (Nat.le_refl _) _
          have k_n13 : X7.heap[g7]? = some (.cells #[.int .i64 0, .int .i64 0, .int .i64 0, .int .i64 0, .int .i64 0, .slice none 0 0] 37 (0, 0)) := by rw [eY, eg]; exact heap_alloc_new X6 _
          have lo_n13 : w.heap.size ≤ g7 := by rw [eg]; exact bw.size
          have ne_r_n13 : ¬ w.heap.size = g7 := ne_new k_r eg
          have ne_c_n13 : ¬ w.heap.size + 1 = g7 := ne_new k_c eg
          have ne_q_n13 : ¬ g_q = g7 := ne_new k_q eg
          (try have na_r0 := Rd.ne_new r0 eg)
          (try have na_r1 := Rd.ne_new r1 eg)
          replace k_r := bk bc k_r
          replace k_c := bk bc k_c
          replace k_q := bk bc k_q
          replace bw := bst bc bw
          (try replace r0 := (r0.below bc).more bc.size)
          (try replace r1 := (r1.below bc).more bc.size)
          (try replace raf := (raf.below bc).more bc.size)
          (try replace rbf := (rbf.below bc).more bc.size)
          clear bc eY eg
          refine wpAnyH_ready (rs := [8]) (by kernel_rfl) (by simp) ?_
          refine (AllReadyH.cons rfl (fun K hK => ?_) AllReadyH.nil)
          have qq := q6c k_n13
          go_simp
          clear qq
          refine hK.out _ _ ⟨(cks ne_q_n13 (cks ne_q_n13 (cks ne_q_n13 (cks ne_q_n13 (cks ne_q_n13 (cks ne_q_n13 hHeld.1)))))), (cks ne_q_n13 (cks ne_q_n13 (cks ne_q_n13 (cks ne_q_n13 (cks ne_q_n13 (cks ne_q_n13 hHeld.2.1)))))), (cks ne_q_n13 (cks ne_q_n13 (cks ne_q_n13 (cks ne_q_n13 (cks ne_q_n13 (cks ne_q_n13 hHeld.2.2.1)))))), (cks ne_q_n13 (cks ne_q_n13 (cks ne_q_n13 (cks ne_q_n13 (cks ne_q_n13 (cks ne_q_n13 hHeld.2.2.2.1)))))), (cks ne_c_n13 (cks ne_c_n13 (cks ne_c_n13 (cks ne_c_n13 (cks ne_c_n13 (cks ne_c_n13 hHeld.2.2.2.2.1)))))), (cks ne_c_n13 (cks ne_c_n13 (cks ne_c_n13 (cks ne_c_n13 (cks ne_c_n13 (cks ne_c_n13 hHeld.2.2.2.2.2.1)))))), (cks ne_c_n13 (cks ne_c_n13 (cks ne_c_n13 (cks ne_c_n13 (cks ne_c_n13 (cks ne_c_n13 hHeld.2.2.2.2.2.2.1)))))), (cks ne_c_n13 (cks ne_c_n13 (cks ne_c_n13 (cks ne_c_n13 (cks ne_c_n13 (cks ne_c_n13 hHeld.2.2.2.2.2.2.2))))))⟩ (fun hHeld => ?_)
          clear hK K
          (try simp only [List.setIfInBounds_toArray, List.set_cons_zero, List.set_cons_succ])
          obtain ⟨X8, eY⟩ : ∃ Y, Y = ((((((X7.setCell ⟨g7, 0, none⟩ (.int .i64 a)).setCell ⟨g7, 1, none⟩ (.int .i64 b)).setCell ⟨g7, 2, none⟩ (.int .i64 c)).setCell ⟨g7, 3, none⟩ (.int .i64 d)).setCell ⟨g7, 4, none⟩ (.int .i64 (4 * (c - a)))).setCell ⟨g7, 5, none⟩ (.slice A1 N cp1)) := ⟨_, rfl⟩
          rw [← eY] at hHeld ⊢
          replace k_r : X8.heap[w.heap.size]? = some (.cells #[.int .i64 a, .int .i64 b, .int .i64 c, .int .i64 d] 23 (0, 0)) := by rw [eY]; exact (bks ne_r_n13 (bks ne_r_n13 (bks ne_r_n13 (bks ne_r_n13 (bks ne_r_n13 (bks ne_r_n13 k_r))))))
          replace k_c : X8.heap[w.heap.size + 1]? = some (.cells #[.int .i64 z.a, .int .i64 z.b, .int .i64 z.c, .int .i64 z.d] 44 (0, 0)) := by rw [eY]; exact (bks ne_c_n13 (bks ne_c_n13 (bks ne_c_n13 (bks ne_c_n13 (bks ne_c_n13 (bks ne_c_n13 k_c))))))
          replace k_q : X8.heap[g_q]? = some (.cells #[.int .i64 a, .int .i64 b, .int .i64 c, .int .i64 d] 25 (0, 0)) := by rw [eY]; exact (bks ne_q_n13 (bks ne_q_n13 (bks ne_q_n13 (bks ne_q_n13 (bks ne_q_n13 (bks ne_q_n13 k_q))))))
          replace bw : Below w.heap.size w X8 := by rw [eY]; exact (bss lo_n13 (bss lo_n13 (bss lo_n13 (bss lo_n13 (bss lo_n13 (bss lo_n13 bw))))))
          replace k_n13 : X8.heap[g7]? = some (.cells #[.int .i64 a, .int .i64 b, .int .i64 c, .int .i64 d, .int .i64 (4 * (c - a)), .slice A1 N cp1] 37 (0, 0)) := by rw [eY]; exact q6s k_n13
          (try replace r0 := Rd.sized (W := X8) (Rd.sset na_r0 (Rd.sset na_r0 (Rd.sset na_r0 (Rd.sset na_r0 (Rd.sset na_r0 (Rd.sset na_r0 r0)))))) eY)
          (try replace r1 := Rd.sized (W := X8) (Rd.sset na_r1 (Rd.sset na_r1 (Rd.sset na_r1 (Rd.sset na_r1 (Rd.sset na_r1 (Rd.sset na_r1 r1)))))) eY)
          clear eY
          refine wpAnyH_done (by kernel_rfl) ?_ _
          go_wp2_with fail
          go_meet
          exact ⟨_, A1, cp1, rfl, k_n13, k_r, k_c, k_q, r0, r1, bw⟩
        · go_simp
          refine hK.out _ _ ⟨cka hHeld.1, cka hHeld.2.1, cka hHeld.2.2.1, cka hHeld.2.2.2.1, cka hHeld.2.2.2.2.1, cka hHeld.2.2.2.2.2.1, cka hHeld.2.2.2.2.2.2.1, cka hHeld.2.2.2.2.2.2.2⟩ (fun hHeld => ?_)
          clear hK K
          (try simp only [List.setIfInBounds_toArray, List.set_cons_zero, List.set_cons_succ])
          obtain ⟨X9, g9, eY, eg⟩ : ∃ Y g, Y = X5.alloc (.cells #[.int .i64 0, .int .i64 0, .int .i64 0, .int .i64 0, .int .i64 0, .slice none 0 0] 37) ∧ g = X5.heap.size := ⟨_, _, rfl, rfl⟩
          rw [← eY, ← eg]
          rw [← eY] at hHeld
          have bc : Below X5.heap.size X5 X9 := by rw [eY]; exact (Below.refl _ _).alloc (Nat.le_refl _) _
          have k_n13 : X9.heap[g9]? = some (.cells #[.int .i64 0, .int .i64 0, .int .i64 0, .int .i64 0, .int .i64 0, .slice none 0 0] 37 (0, 0)) := by rw [eY, eg]; exact heap_alloc_new X5 _
          have lo_n13 : w.heap.size ≤ g9 := by rw [eg]; exact bw.size
          have ne_r_n13 : ¬ w.heap.size = g9 := ne_new k_r eg
          have ne_c_n13 : ¬ w.heap.size + 1 = g9 := ne_new k_c eg
          have ne_q_n13 : ¬ g_q = g9 := ne_new k_q eg
          (try have na_r0 := Rd.ne_new r0 eg)
          (try have na_r1 := Rd.ne_new r1 eg)
          replace k_r := bk bc k_r
          replace k_c := bk bc k_c
          replace k_q := bk bc k_q
          replace bw := bst bc bw
          (try replace r0 := (r0.below bc).more bc.size)
          (try replace r1 := (r1.below bc).more bc.size)
          (try replace raf := (raf.below bc).more bc.size)
          (try replace rbf := (rbf.below bc).more bc.size)
          clear bc eY eg
          refine wpAnyH_ready (rs := [6]) (by kernel_rfl) (by simp) ?_
          refine (AllReadyH.cons rfl (fun K hK => ?_) AllReadyH.nil)
          go_simp
          refine (nrgbaWrite_any a b c d N h3 h4 h5 h6 HN.out n c0 A0 (zs) x y z _ r0).mono ?_
          rintro e X10 ⟨A1, cp1, rfl, r1, lo1, bc⟩
          refine hK.out _ _ ⟨ck bc hHeld.1, ck bc hHeld.2.1, ck bc hHeld.2.2.1, ck bc hHeld.2.2.2.1, ck bc hHeld.2.2.2.2.1, ck bc hHeld.2.2.2.2.2.1, ck bc hHeld.2.2.2.2.2.2.1, ck bc hHeld.2.2.2.2.2.2.2⟩ (fun hHeld => ?_)
          clear hK K
          (try simp only [List.setIfInBounds_toArray, List.set_cons_zero, List.set_cons_succ])
          have na_r1 := lo_ne (n := N) lo1 k_n13
          replace k_r := bk bc k_r
          replace k_c := bk bc k_c
          replace k_q := bk bc k_q
          replace k_n13 := bk bc k_n13
          replace bw := bst bc bw
          (try replace r0 := (r0.below bc).more bc.size)
          (try replace r1 := (r1.below bc).more bc.size)
          (try replace raf := (raf.below bc).more bc.size)
          (try replace rbf := (rbf.below bc).more bc.size)
          clear bc
          refine wpAnyH_ready (rs := [8]) (by kernel_rfl) (by simp) ?_
          refine (AllReadyH.cons rfl (fun K hK => ?_) AllReadyH.nil)
          have qq := q6c k_n13
          go_simp
          clear qq
          refine hK.out _ _ ⟨(cks ne_q_n13 (cks ne_q_n13 (cks ne_q_n13 (cks ne_q_n13 (cks ne_q_n13 (cks ne_q_n13 hHeld.1)))))), (cks ne_q_n13 (cks ne_q_n13 (cks ne_q_n13 (cks ne_q_n13 (cks ne_q_n13 (cks ne_q_n13 hHeld.2.1)))))), (cks ne_q_n13 (cks ne_q_n13 (cks ne_q_n13 (cks ne_q_n13 (cks ne_q_n13 (cks ne_q_n13 hHeld.2.2.1)))))), (cks ne_q_n13 (cks ne_q_n13 (cks ne_q_n13 (cks ne_q_n13 (cks ne_q_n13 (cks ne_q_n13 hHeld.2.2.2.1)))))), (cks ne_c_n13 (cks ne_c_n13 (cks ne_c_n13 (cks ne_c_n13 (cks ne_c_n13 (cks ne_c_n13 hHeld.2.2.2.2.1)))))), (cks ne_c_n13 (cks ne_c_n13 (cks ne_c_n13 (cks ne_c_n13 (cks ne_c_n13 (cks ne_c_n13 hHeld.2.2.2.2.2.1)))))), (cks ne_c_n13 (cks ne_c_n13 (cks ne_c_n13 (cks ne_c_n13 (cks ne_c_n13 (cks ne_c_n13 hHeld.2.2.2.2.2.2.1)))))), (cks ne_c_n13 (cks ne_c_n13 (cks ne_c_n13 (cks ne_c_n13 (cks ne_c_n13 (cks ne_c_n13 hHeld.2.2.2.2.2.2.2))))))⟩ (fun hHeld => ?_)
          clear hK K
          (try simp only [List.setIfInBounds_toArray, List.set_cons_zero, List.set_cons_succ])
          obtain ⟨X11, eY⟩ : ∃ Y, Y = ((((((X10.setCell ⟨g9, 0, none⟩ (.int .i64 a)).setCell ⟨g9, 1, none⟩ (.int .i64 b)).setCell ⟨g9, 2, none⟩ (.int .i64 c)).setCell ⟨g9, 3, none⟩ (.int .i64 d)).setCell ⟨g9, 4, none⟩ (.int .i64 (4 * (c - a)))).setCell ⟨g9, 5, none⟩ (.slice A1 N cp1)) := ⟨_, rfl⟩
          rw [← eY] at hHeld ⊢
          replace k_r : X11.heap[w.heap.size]? = some (.cells #[.int .i64 a, .int .i64 b, .int .i64 c, .int .i64 d] 23 (0, 0)) := by rw [eY]; exact (bks ne_r_n13 (bks ne_r_n13 (bks ne_r_n13 (bks ne_r_n13 (bks ne_r_n13 (bks ne_r_n13 k_r))))))
          replace k_c : X11.heap[w.heap.size + 1]? = some (.cells #[.int .i64 z.a, .int .i64 z.b, .int .i64 z.c, .int .i64 z.d] 44 (0, 0)) := by rw [eY]; exact (bks ne_c_n13 (bks ne_c_n13 (bks ne_c_n13 (bks ne_c_n13 (bks ne_c_n13 (bks ne_c_n13 k_c))))))
          replace k_q : X11.heap[g_q]? = some (.cells #[.int .i64 a, .int .i64 b, .int .i64 c, .int .i64 d] 25 (0, 0)) := by rw [eY]; exact (bks ne_q_n13 (bks ne_q_n13 (bks ne_q_n13 (bks ne_q_n13 (bks ne_q_n13 (bks ne_q_n13 k_q))))))
          replace bw : Below w.heap.size w X11 := by rw [eY]; exact (bss lo_n13 (bss lo_n13 (bss lo_n13 (bss lo_n13 (bss lo_n13 (bss lo_n13 bw))))))
          replace k_n13 : X11.heap[g9]? = some (.cells #[.int .i64 a, .int .i64 b, .int .i64 c, .int .i64 d, .int .i64 (4 * (c - a)), .slice A1 N cp1] 37 (0, 0)) := by rw [eY]; exact q6s k_n13
          (try replace r0 := Rd.sized (W := X11) (Rd.sset na_r0 (Rd.sset na_r0 (Rd.sset na_r0 (Rd.sset na_r0 (Rd.sset na_r0 (Rd.sset na_r0 r0)))))) eY)
          (try replace r1 := Rd.sized (W := X11) (Rd.sset na_r1 (Rd.sset na_r1 (Rd.sset na_r1 (Rd.sset na_r1 (Rd.sset na_r1 (Rd.sset na_r1 r1)))))) eY)
          clear eY
          refine wpAnyH_done (by kernel_rfl) ?_ _
          go_wp2_with fail
          go_meet
          exact ⟨_, A1, cp1, rfl, k_n13, k_r, k_c, k_q, r0, r1, bw⟩
      · go_simp
        refine hK.out _ _ ⟨cka hHeld.1, cka hHeld.2.1, cka hHeld.2.2.1, cka hHeld.2.2.2.1, cka hHeld.2.2.2.2.1, cka hHeld.2.2.2.2.2.1, cka hHeld.2.2.2.2.2.2.1, cka hHeld.2.2.2.2.2.2.2⟩ (fun hHeld => ?_)
        clear hK K
        (try simp only [List.setIfInBounds_toArray, List.set_cons_zero, List.set_cons_succ])
        obtain ⟨X12, g12, eY, eg⟩ : ∃ Y g, Y = X4.alloc (.cells #[.int .i64 0, .int .i64 0, .int .i64 0, .int .i64 0, .int .i64 0, .slice none 0 0] 37) ∧ g = X4.heap.size := ⟨_, _, rfl, rfl⟩
        rw [← eY, ← eg]
        rw [← eY] at hHeld
        have bc : Below X4.heap.size X4 X12 := by rw [eY]; exact (Below.refl _ _).alloc (Nat.le_refl _) _
        have k_n13 : X12.heap[g12]? = some (.cells #[.int .i64 0, .int .i64 0, .int .i64 0, .int .i64 0, .int .i64 0, .slice none 0 0] 37 (0, 0)) := by rw [eY, eg]; exact heap_alloc_new X4 _
        have lo_n13 : w.heap.size ≤ g12 := by rw [eg]; exact bw.size
        have ne_r_n13 : ¬ w.heap.size = g12 := ne_new k_r eg
        have ne_c_n13 : ¬ w.heap.size + 1 = g12 := ne_new k_c eg
        have ne_q_n13 : ¬ g_q = g12 := ne_new k_q eg
        (try have na_r0 := Rd.ne_new r0 eg)
        (try have na_r1 := Rd.ne_new r1 eg)
        replace k_r := bk bc k_r
        replace k_c := bk bc k_c
        replace k_q := bk bc k_q
        replace bw := bst bc bw
        (try replace r0 := (r0.below bc).more bc.size)
        (try replace r1 := (r1.below bc).more bc.size)
        (try replace raf := (raf.below bc).more bc.size)
        (try replace rbf := (rbf.below bc).more bc.size)
        clear bc eY eg
        refine wpAnyH_ready (rs := [5]) (by kernel_rfl) (by simp) ?_
        refine (AllReadyH.cons rfl (fun K hK => ?_) AllReadyH.nil)
        go_simp
        refine (toColor4 z.a z.b z.c z.d _).mono ?_
        rintro e X13 ⟨rfl, bc⟩
        refine hK.out _ _ ⟨ck bc hHeld.1, ck bc hHeld.2.1, ck bc hHeld.2.2.1, ck bc hHeld.2.2.2.1, ck bc hHeld.2.2.2.2.1, ck bc hHeld.2.2.2.2.2.1, ck bc hHeld.2.2.2.2.2.2.1, ck bc hHeld.2.2.2.2.2.2.2⟩ (fun hHeld => ?_)
        clear hK K
        (try simp only [List.setIfInBounds_toArray, List.set_cons_zero, List.set_cons_succ])
        replace k_r := bk bc k_r
        replace k_c := bk bc k_c
        replace k_q := bk bc k_q
        replace k_n13 := bk bc k_n13
        replace bw := bst bc bw
        (try replace r0 := (r0.below bc).more bc.size)
        (try replace r1 := (r1.below bc).more bc.size)
        (try replace raf := (raf.below bc).more bc.size)
        (try replace rbf := (rbf.below bc).more bc.size)
        clear bc
        refine wpAnyH_ready (rs := [6]) (by kernel_rfl) (by simp) ?_
        refine (AllReadyH.cons rfl (fun K hK => ?_) AllReadyH.nil)
        go_simp
        refine (nrgbaWrite_any a b c d N h3 h4 h5 h6 HN.out n c0 A0 (zs) x y z _ r0).mono ?_
        rintro e X14 ⟨A1, cp1, rfl, r1, lo1, bc⟩
        refine hK.out _ _ ⟨ck bc hHeld.1, ck bc hHeld.2.1, ck bc hHeld.2.2.1, ck bc hHeld.2.2.2.1, ck bc hHeld.2.2.2.2.1, ck bc hHeld.2.2.2.2.2.1, ck bc hHeld.2.2.2.2.2.2.1, ck bc hHeld.2.2.2.2.2.2.2⟩ (fun hHeld => ?_)
        clear hK K
        (try simp only [List.setIfInBounds_toArray, List.set_cons_zero, List.set_cons_succ])
        have na_r1 := lo_ne (n := N) lo1 k_n13
        replace k_r := bk bc k_r
        replace k_c := bk bc k_c
        replace k_q := bk bc k_q
        replace k_n13 := bk bc k_n13
        replace bw := bst bc bw
        (try replace r0 := (r0.below bc).more bc.size)
        (try replace r1 := (r1.below bc).more bc.size)
        (try replace raf := (raf.below bc).more bc.size)
        (try replace rbf := (rbf.below bc).more bc.size)
        clear bc
        refine wpAnyH_ready (rs := [8]) (by kernel_rfl) (by simp) ?_
        refine (AllReadyH.cons rfl (fun K hK => ?_) AllReadyH.nil)
        have qq := q6c k_n13
        go_simp
        clear qq
        refine hK.out _ _ ⟨(cks ne_q_n13 (cks ne_q_n13 (cks ne_q_n13 (cks ne_q_n13 (cks ne_q_n13 (cks ne_q_n13 hHeld.1)))))), (cks ne_q_n13 (cks ne_q_n13 (cks ne_q_n13 (cks ne_q_n13 (cks ne_q_n13 (cks ne_q_n13 hHeld.2.1)))))), (cks ne_q_n13 (cks ne_q_n13 (cks ne_q_n13 (cks ne_q_n13 (cks ne_q_n13 (cks ne_q_n13 hHeld.2.2.1)))))), (cks ne_q_n13 (cks ne_q_n13 (cks ne_q_n13 (cks ne_q_n13 (cks ne_q_n13 (cks ne_q_n13 hHeld.2.2.2.1)))))), (cks ne_c_n13 (cks ne_c_n13 (cks ne_c_n13 (cks ne_c_n13 (cks ne_c_n13 (cks ne_c_n13 hHeld.2.2.2.2.1)))))), (cks ne_c_n13 (cks ne_c_n13 (cks ne_c_n13 (cks ne_c_n13 (cks ne_c_n13 (cks ne_c_n13 hHeld.2.2.2.2.2.1)))))), (cks ne_c_n13 (cks ne_c_n13 (cks ne_c_n13 (cks ne_c_n13 (cks ne_c_n13 (cks ne_c_n13 hHeld.2.2.2.2.2.2.1)))))), (cks ne_c_n13 (cks ne_c_n13 (cks ne_c_n13 (cks ne_c_n13 (cks ne_c_n13 (cks ne_c_n13 hHeld.2.2.2.2.2.2.2))))))⟩ (fun hHeld => ?_)
        clear hK K
        (try simp only [List.setIfInBounds_toArray, List.set_cons_zero, List.set_cons_succ])
        obtain ⟨X15, eY⟩ : ∃ Y, Y = ((((((X14.setCell ⟨g12, 0, none⟩ (.int .i64 a)).setCell ⟨g12, 1, none⟩ (.int .i64 b)).setCell ⟨g12, 2, none⟩ (.int .i64 c)).setCell ⟨g12, 3, none⟩ (.int .i64 d)).setCell ⟨g12, 4, none⟩ (.int .i64 (4 * (c - a)))).setCell ⟨g12, 5, none⟩ (.slice A1 N cp1)) := ⟨_, rfl⟩
        rw [← eY] at hHeld ⊢
        replace k_r : X15.heap[w.heap.size]? = some (.cells #[.int .i64 a, .int .i64 b, .int .i64 c, .int .i64 d] 23 (0, 0)) := by rw [eY]; exact (bks ne_r_n13 (bks ne_r_n13 (bks ne_r_n13 (bks ne_r_n13 (bks ne_r_n13 (bks ne_r_n13 k_r))))))
        replace k_c : X15.heap[w.heap.size + 1]? = some (.cells #[.int .i64 z.a, .int .i64 z.b, .int .i64 z.c, .int .i64 z.d] 44 (0, 0)) := by rw [eY]; exact (bks ne_c_n13 (bks ne_c_n13 (bks ne_c_n13 (bks ne_c_n13 (bks ne_c_n13 (bks ne_c_n13 k_c))))))
        replace k_q : X15.heap[g_q]? = some (.cells #[.int .i64 a, .int .i64 b, .int .i64 c, .int .i64 d] 25 (0, 0)) := by rw [eY]; exact (bks ne_q_n13 (bks ne_q_n13 (bks ne_q_n13 (bks ne_q_n13 (bks ne_q_n13 (bks ne_q_n13 k_q))))))
        replace bw : Below w.heap.size w X15 := by rw [eY]; exact (bss lo_n13 (bss lo_n13 (bss lo_n13 (bss lo_n13 (bss lo_n13 (bss lo_n13 bw))))))
        replace k_n13 : X15.heap[g12]? = some (.cells #[.int .i64 a, .int .i64 b, .int .i64 c, .int .i64 d, .int .i64 (4 * (c - a)), .slice A1 N cp1] 37 (0, 0)) := by rw [eY]; exact q6s k_n13
        (try replace r0 := Rd.sized (W := X15) (Rd.sset na_r0 (Rd.sset na_r0 (Rd.sset na_r0 (Rd.sset na_r0 (Rd.sset na_r0 (Rd.sset na_r0 r0)))))) eY)
        (try replace r1 := Rd.sized (W := X15) (Rd.sset na_r1 (Rd.sset na_r1 (Rd.sset na_r1 (Rd.sset na_r1 (Rd.sset na_r1 (Rd.sset na_r1 r1)))))) eY)
        clear eY
        refine wpAnyH_done (by kernel_rfl) ?_ _
        go_wp2_with fail
        go_meet
        exact ⟨_, A1, cp1, rfl, k_n13, k_r, k_c, k_q, r0, r1, bw⟩
    case rest =>
      clear k_r k_c k_q bw
      obtain ⟨g_p, A1, cp1, rfl, k_p, k_r, k_c, k_q, R0, R1, BW⟩ := hcut
      have bw := BW.out
      clear BW
      have r0 := R0.out
      have r1 := R1.out
      clear R0 R1
      have q_r := q4c k_r
      have q_c := q4c k_c
      have q_q := q4c k_q
      have q_p := q6c k_p
      go_upto_region 6 with fail
      clear q_r q_c q_q q_p
      go_cut [16, 14, 15] (fun s16 s14 s15 wx => ∃ (g_o : Nat) (A1f : Option Addr) (c1f : Nat) (A2f : Option Addr) (n2f : Nat) (c2f : Nat) (A3 : Option Addr) (c3f : Nat), s16 = .pointer (some ⟨g_o, 0, none⟩) ∧ s14 = .slice A1f 0 c1f ∧ s15 = .slice A2f n2f c2f ∧ wx.heap[g_o]? = some (.cells #[.int .i64 a, .int .i64 b, .int .i64 c, .int .i64 d, .int .i64 (4 * (c - a)), .slice A3 N c3f] 37 (0, 0)) ∧ wx.heap[w.heap.size]? = some (.cells #[.int .i64 a, .int .i64 b, .int .i64 c, .int .i64 d] 23 (0, 0)) ∧ wx.heap[w.heap.size + 1]? = some (.cells #[.int .i64 z.a, .int .i64 z.b, .int .i64 z.c, .int .i64 z.d] 44 (0, 0)) ∧ wx.heap[g_q]? = some (.cells #[.int .i64 a, .int .i64 b, .int .i64 c, .int .i64 d] 25 (0, 0)) ∧ wx.heap[g_p]? = some (.cells #[.int .i64 a, .int .i64 b, .int .i64 c, .int .i64 d, .int .i64 (4 * (c - a)), .slice A1 N cp1] 37 (0, 0)) ∧ Hid (Rd wx wx.heap.size A0 n zs) ∧ Hid (Rd wx wx.heap.size A1 N (wrAt (byt N zs) a b c d x y z)) ∧ Hid (Rd wx wx.heap.size A3 N (wrAt (byt N zs) a b c d x y z)) ∧ Hid (Below w.heap.size w wx))
      case first =>
        refine wp_region_held_drew (S := fun w' => w'.cell? ⟨g_q, 0, none⟩ = some (.int .i64 a) ∧ w'.cell? ⟨g_q, 1, none⟩ = some (.int .i64 b) ∧ w'.cell? ⟨g_q, 2, none⟩ = some (.int .i64 c) ∧ w'.cell? ⟨g_q, 3, none⟩ = some (.int .i64 d) ∧ w'.cell? ⟨w.heap.size + 1, 0, none⟩ = some (.int .i64 z.a) ∧ w'.cell? ⟨w.heap.size + 1, 1, none⟩ = some (.int .i64 z.b) ∧ w'.cell? ⟨w.heap.size + 1, 2, none⟩ = some (.int .i64 z.c) ∧ w'.cell? ⟨w.heap.size + 1, 3, none⟩ = some (.int .i64 z.d)) (by kernel_rfl) ⟨(q4c k_q).1.1, (q4c k_q).1.2.1, (q4c k_q).1.2.2.1, (q4c k_q).1.2.2.2, (q4c k_c).1.1, (q4c k_c).1.2.1, (q4c k_c).1.2.2.1, (q4c k_c).1.2.2.2⟩ ?_
        intro hHeld
        obtain ⟨X17, eX, bc⟩ : ∃ X, X = wc.drew ∧ Below wc.heap.size wc X := ⟨_, rfl, (Below.refl _ _).drew⟩
        rw [← eX] at hHeld ⊢
        replace k_r := bk bc k_r
        replace k_c := bk bc k_c
        replace k_q := bk bc k_q
        replace k_p := bk bc k_p
        replace bw := bst bc bw
        (try replace r0 := (r0.below bc).more bc.size)
        (try replace r1 := (r1.below bc).more bc.size)
        (try replace r3 := (r3.below bc).more bc.size)
        clear eX bc
        refine takx (i := 0) (D := 32) (v := .agg #[.int .i64 a, .int .i64 b, .int .i64 c, .int .i64 d]) rfl rfl (by kernel_rfl) (by kernel_rfl) (by kernel_rfl) (fun _ _ _ h => h) (Or.inl ⟨by rfl, fun W hSw => by (try dsimp only at hSw); go_simp⟩) (by assumption) ?_
        (try simp only [List.setIfInBounds_toArray, List.set_cons_zero, List.set_cons_succ])
        refine takx (i := 1) (D := 33) (v := .slice A0 n c0) rfl rfl (by kernel_rfl) (by kernel_rfl) (by kernel_rfl) (fun _ _ _ h => h) (Or.inl ⟨by rfl, fun W hSw => by (try dsimp only at hSw); go_simp⟩) (by assumption) ?_
        (try simp only [List.setIfInBounds_toArray, List.set_cons_zero, List.set_cons_succ])
        refine takx (i := 2) (D := 34) (v := .int .i64 x) rfl rfl (by kernel_rfl) (by kernel_rfl) (by kernel_rfl) (fun _ _ _ h => h) (Or.inl ⟨by rfl, fun W hSw => by (try dsimp only at hSw); go_simp⟩) (by assumption) ?_
        (try simp only [List.setIfInBounds_toArray, List.set_cons_zero, List.set_cons_succ])
        refine takx (i := 3) (D := 35) (v := .int .i64 y) rfl rfl (by kernel_rfl) (by kernel_rfl) (by kernel_rfl) (fun _ _ _ h => h) (Or.inl ⟨by rfl, fun W hSw => by (try dsimp only at hSw); go_simp⟩) (by assumption) ?_
        (try simp only [List.setIfInBounds_toArray, List.set_cons_zero, List.set_cons_succ])
        refine takx (i := 4) (D := 36) (v := .agg #[.int .i64 z.a, .int .i64 z.b, .int .i64 z.c, .int .i64 z.d]) rfl rfl (by kernel_rfl) (by kernel_rfl) (by kernel_rfl) (fun _ _ _ h => h) (Or.inl ⟨by rfl, fun W hSw => by (try dsimp only at hSw); go_simp⟩) (by assumption) ?_
        (try simp only [List.setIfInBounds_toArray, List.set_cons_zero, List.set_cons_succ])
        refine wpAnyH_ready (rs := [5, 13]) (by kernel_rfl) (by simp) ?_
        refine (AllReadyH.cons rfl (fun K hK => ?_) (AllReadyH.cons rfl (fun K hK => ?_) AllReadyH.nil))
        · go_simp
          refine (toColor4 z.a z.b z.c z.d _).mono ?_
          rintro e X18 ⟨rfl, bc⟩
          refine hK.out _ _ ⟨ck bc hHeld.1, ck bc hHeld.2.1, ck bc hHeld.2.2.1, ck bc hHeld.2.2.2.1, ck bc hHeld.2.2.2.2.1, ck bc hHeld.2.2.2.2.2.1, ck bc hHeld.2.2.2.2.2.2.1, ck bc hHeld.2.2.2.2.2.2.2⟩ (fun hHeld => ?_)
          clear hK K
          (try simp only [List.setIfInBounds_toArray, List.set_cons_zero, List.set_cons_succ])
          replace k_r := bk bc k_r
          replace k_c := bk bc k_c
          replace k_q := bk bc k_q
          replace k_p := bk bc k_p
          replace bw := bst bc bw
          (try replace r0 := (r0.below bc).more bc.size)
          (try replace r1 := (r1.below bc).more bc.size)
          (try replace r3 := (r3.below bc).more bc.size)
          clear bc
          refine takx (i := 6) (D := 38) (v := .agg #[.int .i64 1, .int .i64 x, .int .i64 y, .int .i64 z.a, .int .i64 z.b, .int .i64 z.c, .int .i64 z.d, .int .i64 0, .int .i64 0, .int .i64 0, .int .i64 0]) rfl rfl (by kernel_rfl) (by kernel_rfl) (by kernel_rfl) (fun _ _ _ h => h) (Or.inl ⟨by rfl, fun W hSw => by (try dsimp only at hSw); go_simp⟩) (by assumption) ?_
          (try simp only [List.setIfInBounds_toArray, List.set_cons_zero, List.set_cons_succ])
          refine wpAnyH_ready (rs := [7, 13]) (by kernel_rfl) (by simp) ?_
          refine (AllReadyH.cons rfl (fun K hK => ?_) (AllReadyH.cons rfl (fun K hK => ?_) AllReadyH.nil))
          · go_simp
            refine hK.out _ _ ⟨cka hHeld.1, cka hHeld.2.1, cka hHeld.2.2.1, cka hHeld.2.2.2.1, cka hHeld.2.2.2.2.1, cka hHeld.2.2.2.2.2.1, cka hHeld.2.2.2.2.2.2.1, cka hHeld.2.2.2.2.2.2.2⟩ (fun hHeld => ?_)
            clear hK K
            (try simp only [List.setIfInBounds_toArray, List.set_cons_zero, List.set_cons_succ])
            obtain ⟨X19, g19, eY, eg⟩ : ∃ Y g, Y = X18.alloc (.cells #[.int .i64 1, .int .i64 x, .int .i64 y, .int .i64 z.a, .int .i64 z.b, .int .i64 z.c, .int .i64 z.d, .int .i64 0, .int .i64 0, .int .i64 0, .int .i64 0] 34) ∧ g = X18.heap.size := ⟨_, _, rfl, rfl⟩
            rw [← eY, ← eg]
            rw [← eY] at hHeld
            have bc : Below X18.heap.size X18 X19 := by rw [eY]; exact (Below.refl _ _).alloc (Nat.le_refl _) _
            have k_n39 : X19.heap[g19]? = some (.cells #[.int .i64 1, .int .i64 x, .int .i64 y, .int .i64 z.a, .int .i64 z.b, .int .i64 z.c, .int .i64 z.d, .int .i64 0, .int .i64 0, .int .i64 0, .int .i64 0] 34 (0, 0)) := by rw [eY, eg]; exact heap_alloc_new X18 _
            replace k_r := bk bc k_r
            replace k_c := bk bc k_c
            replace k_q := bk bc k_q
            replace k_p := bk bc k_p
            replace bw := bst bc bw
            (try replace r0 := (r0.below bc).more bc.size)
            (try replace r1 := (r1.below bc).more bc.size)
            (try replace r3 := (r3.below bc).more bc.size)
            clear bc eY eg
            refine wpAnyH_ready (rs := [8, 13]) (by kernel_rfl) (by simp) ?_
            refine (AllReadyH.cons rfl (fun K hK => ?_) (AllReadyH.cons rfl (fun K hK => ?_) AllReadyH.nil))
            · go_simp
              refine ((nrgbaRun_any a b c d N h3 h4 h5 h6 HN.out n c0 A0 zs 1 1 _ [⟨1, x, y, z, ⟨0, 0, 0, 0⟩⟩] _ r0 (RdSteps.of_block (ss := [⟨1, x, y, z, ⟨0, 0, 0, 0⟩⟩]) (m := 1) k_n39 rfl rfl (by decide) OK1.out)).mono (fun _ _ h => h.lite (k := 0) (cs := []) (bs := wrAt (byt N zs) a b c d x y z) E1.out.1 E1.out.2 rfl)).mono ?_
              rintro e X20 ⟨A1f, c1f, A2f, n2f, c2f, A3, c3f, rfl, raf, r3, laf, lo3, bc⟩
              refine hK.out _ _ ⟨ck bc hHeld.1, ck bc hHeld.2.1, ck bc hHeld.2.2.1, ck bc hHeld.2.2.2.1, ck bc hHeld.2.2.2.2.1, ck bc hHeld.2.2.2.2.2.1, ck bc hHeld.2.2.2.2.2.2.1, ck bc hHeld.2.2.2.2.2.2.2⟩ (fun hHeld => ?_)
              clear hK K
              (try simp only [List.setIfInBounds_toArray, List.set_cons_zero, List.set_cons_succ])
              replace k_r := bk bc k_r
              replace k_c := bk bc k_c
              replace k_q := bk bc k_q
              replace k_p := bk bc k_p
              replace k_n39 := bk bc k_n39
              replace bw := bst bc bw
              (try replace r0 := (r0.below bc).more bc.size)
              (try replace r1 := (r1.below bc).more bc.size)
              (try replace r3 := (r3.below bc).more bc.size)
              clear bc
              refine takx (i := 9) (D := 31) (v := .tuple #[.slice A1f 0 c1f, .slice A2f n2f c2f, .agg #[.int .i64 a, .int .i64 b, .int .i64 c, .int .i64 d, .int .i64 (4 * (c - a)), .slice A3 N c3f]]) rfl rfl (by kernel_rfl) (by kernel_rfl) (by kernel_rfl) (fun _ _ _ h => h) (Or.inl ⟨by rfl, fun W hSw => by (try dsimp only at hSw); go_simp⟩) (by assumption) ?_
              (try simp only [List.setIfInBounds_toArray, List.set_cons_zero, List.set_cons_succ])
              refine takx (i := 10) (D := 41) (v := .slice A1f 0 c1f) rfl rfl (by kernel_rfl) (by kernel_rfl) (by kernel_rfl) (fun _ _ _ h => h) (Or.inl ⟨by rfl, fun W hSw => by (try dsimp only at hSw); go_simp⟩) (by assumption) ?_
              (try simp only [List.setIfInBounds_toArray, List.set_cons_zero, List.set_cons_succ])
              refine takx (i := 11) (D := 42) (v := .slice A2f n2f c2f) rfl rfl (by kernel_rfl) (by kernel_rfl) (by kernel_rfl) (fun _ _ _ h => h) (Or.inl ⟨by rfl, fun W hSw => by (try dsimp only at hSw); go_simp⟩) (by assumption) ?_
              (try simp only [List.setIfInBounds_toArray, List.set_cons_zero, List.set_cons_succ])
              refine takx (i := 12) (D := 43) (v := .agg #[.int .i64 a, .int .i64 b, .int .i64 c, .int .i64 d, .int .i64 (4 * (c - a)), .slice A3 N c3f]) rfl rfl (by kernel_rfl) (by kernel_rfl) (by kernel_rfl) (fun _ _ _ h => h) (Or.inl ⟨by rfl, fun W hSw => by (try dsimp only at hSw); go_simp⟩) (by assumption) ?_
              (try simp only [List.setIfInBounds_toArray, List.set_cons_zero, List.set_cons_succ])
              refine wpAnyH_ready (rs := [13]) (by kernel_rfl) (by simp) ?_
              refine (AllReadyH.cons rfl (fun K hK => ?_) AllReadyH.nil)
              go_simp
              refine hK.out _ _ ⟨cka hHeld.1, cka hHeld.2.1, cka hHeld.2.2.1, cka hHeld.2.2.2.1, cka hHeld.2.2.2.2.1, cka hHeld.2.2.2.2.2.1, cka hHeld.2.2.2.2.2.2.1, cka hHeld.2.2.2.2.2.2.2⟩ (fun hHeld => ?_)
              clear hK K
              (try simp only [List.setIfInBounds_toArray, List.set_cons_zero, List.set_cons_succ])
              obtain ⟨X21, g21, eY, eg⟩ : ∃ Y g, Y = X20.alloc (.cells #[.int .i64 0, .int .i64 0, .int .i64 0, .int .i64 0, .int .i64 0, .slice none 0 0] 37) ∧ g = X20.heap.size := ⟨_, _, rfl, rfl⟩
              rw [← eY, ← eg]
              rw [← eY] at hHeld
              have bc : Below X20.heap.size X20 X21 := by rw [eY]; exact (Below.refl _ _).alloc (Nat.le_refl _) _
              have k_n16 : X21.heap[g21]? = some (.cells #[.int .i64 0, .int .i64 0, .int .i64 0, .int .i64 0, .int .i64 0, .slice none 0 0] 37 (0, 0)) := by rw [eY, eg]; exact heap_alloc_new X20 _
              have lo_n16 : w.heap.size ≤ g21 := by rw [eg]; exact bw.size
              have ne_r_n16 : ¬ w.heap.size = g21 := ne_new k_r eg
              have ne_c_n16 : ¬ w.heap.size + 1 = g21 := ne_new k_c eg
              have ne_q_n16 : ¬ g_q = g21 := ne_new k_q eg
              have ne_p_n16 : ¬ g_p = g21 := ne_new k_p eg
              have ne_n39_n16 : ¬ g19 = g21 := ne_new k_n39 eg
              (try have na_r0 := Rd.ne_new r0 eg)
              (try have na_r1 := Rd.ne_new r1 eg)
              (try have na_r3 := Rd.ne_new r3 eg)
              replace k_r := bk bc k_r
              replace k_c := bk bc k_c
              replace k_q := bk bc k_q
              replace k_p := bk bc k_p
              replace k_n39 := bk bc k_n39
              replace bw := bst bc bw
              (try replace r0 := (r0.below bc).more bc.size)
              (try replace r1 := (r1.below bc).more bc.size)
              (try replace r3 := (r3.below bc).more bc.size)
              clear bc eY eg
              refine takx (i := 14) (D := 14) (v := .slice A1f 0 c1f) rfl rfl (by kernel_rfl) (by kernel_rfl) (by kernel_rfl) (fun _ _ _ h => h) (Or.inl ⟨by rfl, fun W hSw => by (try dsimp only at hSw); go_simp⟩) (by assumption) ?_
              (try simp only [List.setIfInBounds_toArray, List.set_cons_zero, List.set_cons_succ])
              refine takx (i := 15) (D := 15) (v := .slice A2f n2f c2f) rfl rfl (by kernel_rfl) (by kernel_rfl) (by kernel_rfl) (fun _ _ _ h => h) (Or.inl ⟨by rfl, fun W hSw => by (try dsimp only at hSw); go_simp⟩) (by assumption) ?_
              (try simp only [List.setIfInBounds_toArray, List.set_cons_zero, List.set_cons_succ])
              refine wpAnyH_ready (rs := [16]) (by kernel_rfl) (by simp) ?_
              refine (AllReadyH.cons rfl (fun K hK => ?_) AllReadyH.nil)
              have qq := q6c k_n16
              go_simp
              clear qq
              refine hK.out _ _ ⟨(cks ne_q_n16 (cks ne_q_n16 (cks ne_q_n16 (cks ne_q_n16 (cks ne_q_n16 (cks ne_q_n16 hHeld.1)))))), (cks ne_q_n16 (cks ne_q_n16 (cks ne_q_n16 (cks ne_q_n16 (cks ne_q_n16 (cks ne_q_n16 hHeld.2.1)))))), (cks ne_q_n16 (cks ne_q_n16 (cks ne_q_n16 (cks ne_q_n16 (cks ne_q_n16 (cks ne_q_n16 hHeld.2.2.1)))))), (cks ne_q_n16 (cks ne_q_n16 (cks ne_q_n16 (cks ne_q_n16 (cks ne_q_n16 (cks ne_q_n16 hHeld.2.2.2.1)))))), (cks ne_c_n16 (cks ne_c_n16 (cks ne_c_n16 (cks ne_c_n16 (cks ne_c_n16 (cks ne_c_n16 hHeld.2.2.2.2.1)))))), (cks ne_c_n16 (cks ne_c_n16 (cks ne_c_n16 (cks ne_c_n16 (cks ne_c_n16 (cks ne_c_n16 hHeld.2.2.2.2.2.1)))))), (cks ne_c_n16 (cks ne_c_n16 (cks ne_c_n16 (cks ne_c_n16 (cks ne_c_n16 (cks ne_c_n16 hHeld.2.2.2.2.2.2.1)))))), (cks ne_c_n16 (cks ne_c_n16 (cks ne_c_n16 (cks ne_c_n16 (cks ne_c_n16 (cks ne_c_n16 hHeld.2.2.2.2.2.2.2))))))⟩ (fun hHeld => ?_)
              clear hK K
              (try simp only [List.setIfInBounds_toArray, List.set_cons_zero, List.set_cons_succ])
              obtain ⟨X22, eY⟩ : ∃ Y, Y = ((((((X21.setCell ⟨g21, 0, none⟩ (.int .i64 a)).setCell ⟨g21, 1, none⟩ (.int .i64 b)).setCell ⟨g21, 2, none⟩ (.int .i64 c)).setCell ⟨g21, 3, none⟩ (.int .i64 d)).setCell ⟨g21, 4, none⟩ (.int .i64 (4 * (c - a)))).setCell ⟨g21, 5, none⟩ (.slice A3 N c3f)) := ⟨_, rfl⟩
              rw [← eY] at hHeld ⊢
              replace k_r : X22.heap[w.heap.size]? = some (.cells #[.int .i64 a, .int .i64 b, .int .i64 c, .int .i64 d] 23 (0, 0)) := by rw [eY]; exact (bks ne_r_n16 (bks ne_r_n16 (bks ne_r_n16 (bks ne_r_n16 (bks ne_r_n16 (bks ne_r_n16 k_r))))))
              replace k_c : X22.heap[w.heap.size + 1]? = some (.cells #[.int .i64 z.a, .int .i64 z.b, .int .i64 z.c, .int .i64 z.d] 44 (0, 0)) := by rw [eY]; exact (bks ne_c_n16 (bks ne_c_n16 (bks ne_c_n16 (bks ne_c_n16 (bks ne_c_n16 (bks ne_c_n16 k_c))))))
              replace k_q : X22.heap[g_q]? = some (.cells #[.int .i64 a, .int .i64 b, .int .i64 c, .int .i64 d] 25 (0, 0)) := by rw [eY]; exact (bks ne_q_n16 (bks ne_q_n16 (bks ne_q_n16 (bks ne_q_n16 (bks ne_q_n16 (bks ne_q_n16 k_q))))))
              replace k_p : X22.heap[g_p]? = some (.cells #[.int .i64 a, .int .i64 b, .int .i64 c, .int .i64 d, .int .i64 (4 * (c - a)), .slice A1 N cp1] 37 (0, 0)) := by rw [eY]; exact (bks ne_p_n16 (bks ne_p_n16 (bks ne_p_n16 (bks ne_p_n16 (bks ne_p_n16 (bks ne_p_n16 k_p))))))
              replace k_n39 : X22.heap[g19]? = some (.cells #[.int .i64 1, .int .i64 x, .int .i64 y, .int .i64 z.a, .int .i64 z.b, .int .i64 z.c, .int .i64 z.d, .int .i64 0, .int .i64 0, .int .i64 0, .int .i64 0] 34 (0, 0)) := by rw [eY]; exact (bks ne_n39_n16 (bks ne_n39_n16 (bks ne_n39_n16 (bks ne_n39_n16 (bks ne_n39_n16 (bks ne_n39_n16 k_n39))))))
              replace bw : Below w.heap.size w X22 := by rw [eY]; exact (bss lo_n16 (bss lo_n16 (bss lo_n16 (bss lo_n16 (bss lo_n16 (bss lo_n16 bw))))))
              replace k_n16 : X22.heap[g21]? = some (.cells #[.int .i64 a, .int .i64 b, .int .i64 c, .int .i64 d, .int .i64 (4 * (c - a)), .slice A3 N c3f] 37 (0, 0)) := by rw [eY]; exact q6s k_n16
              (try replace r0 := Rd.sized (W := X22) (Rd.sset na_r0 (Rd.sset na_r0 (Rd.sset na_r0 (Rd.sset na_r0 (Rd.sset na_r0 (Rd.sset na_r0 r0)))))) eY)
              (try replace r1 := Rd.sized (W := X22) (Rd.sset na_r1 (Rd.sset na_r1 (Rd.sset na_r1 (Rd.sset na_r1 (Rd.sset na_r1 (Rd.sset na_r1 r1)))))) eY)
              (try replace r3 := Rd.sized (W := X22) (Rd.sset na_r3 (Rd.sset na_r3 (Rd.sset na_r3 (Rd.sset na_r3 (Rd.sset na_r3 (Rd.sset na_r3 r3)))))) eY)
              clear eY
              refine wpAnyH_done (by kernel_rfl) ?_ _
              go_wp2_with fail
              go_meet
              exact ⟨_, A1f, c1f, A2f, n2f, c2f, A3, c3f, rfl, rfl, rfl, k_n16, k_r, k_c, k_q, k_p, r0, r1, r3, bw⟩
            · go_simp
              refine hK.out _ _ ⟨cka hHeld.1, cka hHeld.2.1, cka hHeld.2.2.1, cka hHeld.2.2.2.1, cka hHeld.2.2.2.2.1, cka hHeld.2.2.2.2.2.1, cka hHeld.2.2.2.2.2.2.1, cka hHeld.2.2.2.2.2.2.2⟩ (fun hHeld => ?_)
              clear hK K
              (try simp only [List.setIfInBounds_toArray, List.set_cons_zero, List.set_cons_succ])
              obtain ⟨X23, g23, eY, eg⟩ : ∃ Y g, Y = X19.alloc (.cells #[.int .i64 0, .int .i64 0, .int .i64 0, .int .i64 0, .int .i64 0, .slice none 0 0] 37) ∧ g = X19.heap.size := ⟨_, _, rfl, rfl⟩
              rw [← eY, ← eg]
              rw [← eY] at hHeld
              have bc : Below X19.heap.size X19 X23 := by rw [eY]; exact (Below.refl _ _).alloc (Nat.le_refl _) _
              have k_n16 : X23.heap[g23]? = some (.cells #[.int .i64 0, .int .i64 0, .int .i64 0, .int .i64 0, .int .i64 0, .slice none 0 0] 37 (0, 0)) := by rw [eY, eg]; exact heap_alloc_new X19 _
              have lo_n16 : w.heap.size ≤ g23 := by rw [eg]; exact bw.size
              have ne_r_n16 : ¬ w.heap.size = g23 := ne_new k_r eg
              have ne_c_n16 : ¬ w.heap.size + 1 = g23 := ne_new k_c eg
              have ne_q_n16 : ¬ g_q = g23 := ne_new k_q eg
              have ne_p_n16 : ¬ g_p = g23 := ne_new k_p eg
              have ne_n39_n16 : ¬ g19 = g23 := ne_new k_n39 eg
              (try have na_r0 := Rd.ne_new r0 eg)
              (try have na_r1 := Rd.ne_new r1 eg)
              (try have na_r3 := Rd.ne_new r3 eg)
              replace k_r := bk bc k_r
              replace k_c := bk bc k_c
              replace k_q := bk bc k_q
              replace k_p := bk bc k_p
              replace k_n39 := bk bc k_n39
              replace bw := bst bc bw
              (try replace r0 := (r0.below bc).more bc.size)
              (try replace r1 := (r1.below bc).more bc.size)
              (try replace r3 := (r3.below bc).more bc.size)
              clear bc eY eg
              refine wpAnyH_ready (rs := [8]) (by kernel_rfl) (by simp) ?_
              refine (AllReadyH.cons rfl (fun K hK => ?_) AllReadyH.nil)
              go_simp
              refine ((nrgbaRun_any a b c d N h3 h4 h5 h6 HN.out n c0 A0 zs 1 1 _ [⟨1, x, y, z, ⟨0, 0, 0, 0⟩⟩] _ r0 (RdSteps.of_block (ss := [⟨1, x, y, z, ⟨0, 0, 0, 0⟩⟩]) (m := 1) k_n39 rfl rfl (by decide) OK1.out)).mono (fun _ _ h => h.lite (k := 0) (cs := []) (bs := wrAt (byt N zs) a b c d x y z) E1.out.1 E1.out.2 rfl)).mono ?_
              rintro e X24 ⟨A1f, c1f, A2f, n2f, c2f, A3, c3f, rfl, raf, r3, laf, lo3, bc⟩
              refine hK.out _ _ ⟨ck bc hHeld.1, ck bc hHeld.2.1, ck bc hHeld.2.2.1, ck bc hHeld.2.2.2.1, ck bc hHeld.2.2.2.2.1, ck bc hHeld.2.2.2.2.2.1, ck bc hHeld.2.2.2.2.2.2.1, ck bc hHeld.2.2.2.2.2.2.2⟩ (fun hHeld => ?_)
              clear hK K
              (try simp only [List.setIfInBounds_toArray, List.set_cons_zero, List.set_cons_succ])
              have na_r3 := lo_ne (n := N) lo3 k_n16
              replace k_r := bk bc k_r
              replace k_c := bk bc k_c
              replace k_q := bk bc k_q
              replace k_p := bk bc k_p
              replace k_n39 := bk bc k_n39
              replace k_n16 := bk bc k_n16
              replace bw := bst bc bw
              (try replace r0 := (r0.below bc).more bc.size)
              (try replace r1 := (r1.below bc).more bc.size)
              (try replace r3 := (r3.below bc).more bc.size)
              clear bc
              refine takx (i := 9) (D := 31) (v := .tuple #[.slice A1f 0 c1f, .slice A2f n2f c2f, .agg #[.int .i64 a, .int .i64 b, .int .i64 c, .int .i64 d, .int .i64 (4 * (c - a)), .slice A3 N c3f]]) rfl rfl (by kernel_rfl) (by kernel_rfl) (by kernel_rfl) (fun _ _ _ h => h) (Or.inl ⟨by rfl, fun W hSw => by (try dsimp only at hSw); go_simp⟩) (by assumption) ?_
              (try simp only [List.setIfInBounds_toArray, List.set_cons_zero, List.set_cons_succ])
              refine takx (i := 10) (D := 41) (v := .slice A1f 0 c1f) rfl rfl (by kernel_rfl) (by kernel_rfl) (by kernel_rfl) (fun _ _ _ h => h) (Or.inl ⟨by rfl, fun W hSw => by (try dsimp only at hSw); go_simp⟩) (by assumption) ?_
              (try simp only [List.setIfInBounds_toArray, List.set_cons_zero, List.set_cons_succ])
              refine takx (i := 11) (D := 42) (v := .slice A2f n2f c2f) rfl rfl (by kernel_rfl) (by kernel_rfl) (by kernel_rfl) (fun _ _ _ h => h) (Or.inl ⟨by rfl, fun W hSw => by (try dsimp only at hSw); go_simp⟩) (by assumption) ?_
              (try simp only [List.setIfInBounds_toArray, List.set_cons_zero, List.set_cons_succ])
              refine takx (i := 12) (D := 43) (v := .agg #[.int .i64 a, .int .i64 b, .int .i64 c, .int .i64 d, .int .i64 (4 * (c - a)), .slice A3 N c3f]) rfl rfl (by kernel_rfl) (by kernel_rfl) (by kernel_rfl) (fun _ _ _ h => h) (Or.inl ⟨by rfl, fun W hSw => by (try dsimp only at hSw); go_simp⟩) (by assumption) ?_
              (try simp only [List.setIfInBounds_toArray, List.set_cons_zero, List.set_cons_succ])
              refine takx (i := 14) (D := 14) (v := .slice A1f 0 c1f) rfl rfl (by kernel_rfl) (by kernel_rfl) (by kernel_rfl) (fun _ _ _ h => h) (Or.inl ⟨by rfl, fun W hSw => by (try dsimp only at hSw); go_simp⟩) (by assumption) ?_
              (try simp only [List.setIfInBounds_toArray, List.set_cons_zero, List.set_cons_succ])
              refine takx (i := 15) (D := 15) (v := .slice A2f n2f c2f) rfl rfl (by kernel_rfl) (by kernel_rfl) (by kernel_rfl) (fun _ _ _ h => h) (Or.inl ⟨by rfl, fun W hSw => by (try dsimp only at hSw); go_simp⟩) (by assumption) ?_
              (try simp only [List.setIfInBounds_toArray, List.set_cons_zero, List.set_cons_succ])
              refine wpAnyH_ready (rs := [16]) (by kernel_rfl) (by simp) ?_
              refine (AllReadyH.cons rfl (fun K hK => ?_) AllReadyH.nil)
              have qq := q6c k_n16
              go_simp
              clear qq
              refine hK.out _ _ ⟨(cks ne_q_n16 (cks ne_q_n16 (cks ne_q_n16 (cks ne_q_n16 (cks ne_q_n16 (cks ne_q_n16 hHeld.1)))))), (cks ne_q_n16 (cks ne_q_n16 (cks ne_q_n16 (cks ne_q_n16 (cks ne_q_n16 (cks ne_q_n16 hHeld.2.1)))))), (cks ne_q_n16 (cks ne_q_n16 (cks ne_q_n16 (cks ne_q_n16 (cks ne_q_n16 (cks ne_q_n16 hHeld.2.2.1)))))), (cks ne_q_n16 (cks ne_q_n16 (cks ne_q_n16 (cks ne_q_n16 (cks ne_q_n16 (cks ne_q_n16 hHeld.2.2.2.1)))))), (cks ne_c_n16 (cks ne_c_n16 (cks ne_c_n16 (cks ne_c_n16 (cks ne_c_n16 (cks ne_c_n16 hHeld.2.2.2.2.1)))))), (cks ne_c_n16 (cks ne_c_n16 (cks ne_c_n16 (cks ne_c_n16 (cks ne_c_n16 (cks ne_c_n16 hHeld.2.2.2.2.2.1)))))), (cks ne_c_n16 (cks ne_c_n16 (cks ne_c_n16 (cks ne_c_n16 (cks ne_c_n16 (cks ne_c_n16 hHeld.2.2.2.2.2.2.1)))))), (cks ne_c_n16 (cks ne_c_n16 (cks ne_c_n16 (cks ne_c_n16 (cks ne_c_n16 (cks ne_c_n16 hHeld.2.2.2.2.2.2.2))))))⟩ (fun hHeld => ?_)
              clear hK K
              (try simp only [List.setIfInBounds_toArray, List.set_cons_zero, List.set_cons_succ])
              obtain ⟨X25, eY⟩ : ∃ Y, Y = ((((((X24.setCell ⟨g23, 0, none⟩ (.int .i64 a)).setCell ⟨g23, 1, none⟩ (.int .i64 b)).setCell ⟨g23, 2, none⟩ (.int .i64 c)).setCell ⟨g23, 3, none⟩ (.int .i64 d)).setCell ⟨g23, 4, none⟩ (.int .i64 (4 * (c - a)))).setCell ⟨g23, 5, none⟩ (.slice A3 N c3f)) := ⟨_, rfl⟩
              rw [← eY] at hHeld ⊢
              replace k_r : X25.heap[w.heap.size]? = some (.cells #[.int .i64 a, .int .i64 b, .int .i64 c, .int .i64 d] 23 (0, 0)) := by rw [eY]; exact (bks ne_r_n16 (bks ne_r_n16 (bks ne_r_n16 (bks ne_r_n16 (bks ne_r_n16 (bks ne_r_n16 k_r))))))
              replace k_c : X25.heap[w.heap.size + 1]? = some (.cells #[.int .i64 z.a, .int .i64 z.b, .int .i64 z.c, .int .i64 z.d] 44 (0, 0)) := by rw [eY]; exact (bks ne_c_n16 (bks ne_c_n16 (bks ne_c_n16 (bks ne_c_n16 (bks ne_c_n16 (bks ne_c_n16 k_c))))))
              replace k_q : X25.heap[g_q]? = some (.cells #[.int .i64 a, .int .i64 b, .int .i64 c, .int .i64 d] 25 (0, 0)) := by rw [eY]; exact (bks ne_q_n16 (bks ne_q_n16 (bks ne_q_n16 (bks ne_q_n16 (bks ne_q_n16 (bks ne_q_n16 k_q))))))
              replace k_p : X25.heap[g_p]? = some (.cells #[.int .i64 a, .int .i64 b, .int .i64 c, .int .i64 d, .int .i64 (4 * (c - a)), .slice A1 N cp1] 37 (0, 0)) := by rw [eY]; exact (bks ne_p_n16 (bks ne_p_n16 (bks ne_p_n16 (bks ne_p_n16 (bks ne_p_n16 (bks ne_p_n16 k_p))))))
              replace k_n39 : X25.heap[g19]? = some (.cells #[.int .i64 1, .int .i64 x, .int .i64 y, .int .i64 z.a, .int .i64 z.b, .int .i64 z.c, .int .i64 z.d, .int .i64 0, .int .i64 0, .int .i64 0, .int .i64 0] 34 (0, 0)) := by rw [eY]; exact (bks ne_n39_n16 (bks ne_n39_n16 (bks ne_n39_n16 (bks ne_n39_n16 (bks ne_n39_n16 (bks ne_n39_n16 k_n39))))))
              replace bw : Below w.heap.size w X25 := by rw [eY]; exact (bss lo_n16 (bss lo_n16 (bss lo_n16 (bss lo_n16 (bss lo_n16 (bss lo_n16 bw))))))
              replace k_n16 : X25.heap[g23]? = some (.cells #[.int .i64 a, .int .i64 b, .int .i64 c, .int .i64 d, .int .i64 (4 * (c - a)), .slice A3 N c3f] 37 (0, 0)) := by rw [eY]; exact q6s k_n16
              (try replace r0 := Rd.sized (W := X25) (Rd.sset na_r0 (Rd.sset na_r0 (Rd.sset na_r0 (Rd.sset na_r0 (Rd.sset na_r0 (Rd.sset na_r0 r0)))))) eY)
              (try replace r1 := Rd.sized (W := X25) (Rd.sset na_r1 (Rd.sset na_r1 (Rd.sset na_r1 (Rd.sset na_r1 (Rd.sset na_r1 (Rd.sset na_r1 r1)))))) eY)
              (try replace r3 := Rd.sized (W := X25) (Rd.sset na_r3 (Rd.sset na_r3 (Rd.sset na_r3 (Rd.sset na_r3 (Rd.sset na_r3 (Rd.sset na_r3 r3)))))) eY)
              clear eY
              refine wpAnyH_done (by kernel_rfl) ?_ _
              go_wp2_with fail
              go_meet
              exact ⟨_, A1f, c1f, A2f, n2f, c2f, A3, c3f, rfl, rfl, rfl, k_n16, k_r, k_c, k_q, k_p, r0, r1, r3, bw⟩
          · go_simp
            refine hK.out _ _ ⟨cka hHeld.1, cka hHeld.2.1, cka hHeld.2.2.1, cka hHeld.2.2.2.1, cka hHeld.2.2.2.2.1, cka hHeld.2.2.2.2.2.1, cka hHeld.2.2.2.2.2.2.1, cka hHeld.2.2.2.2.2.2.2⟩ (fun hHeld => ?_)
            clear hK K
            (try simp only [List.setIfInBounds_toArray, List.set_cons_zero, List.set_cons_succ])
            obtain ⟨X26, g26, eY, eg⟩ : ∃ Y g, Y = X18.alloc (.cells #[.int .i64 0, .int .i64 0, .int .i64 0, .int .i64 0, .int .i64 0, .slice none 0 0] 37) ∧ g = X18.heap.size := ⟨_, _, rfl, rfl⟩
            rw [← eY, ← eg]
            rw [← eY] at hHeld
            have bc : Below X18.heap.size X18 X26 := by rw [eY]; exact (Below.refl _ _).alloc (Nat.le_refl _) _
            have k_n16 : X26.heap[g26]? = some (.cells #[.int .i64 0, .int .i64 0, .int .i64 0, .int .i64 0, .int .i64 0, .slice none 0 0] 37 (0, 0)) := by rw [eY, eg]; exact heap_alloc_new X18 _
            have lo_n16 : w.heap.size ≤ g26 := by rw [eg]; exact bw.size
            have ne_r_n16 : ¬ w.heap.size = g26 := ne_new k_r eg
            have ne_c_n16 : ¬ w.heap.size + 1 = g26 := ne_new k_c eg
            have ne_q_n16 : ¬ g_q = g26 := ne_new k_q eg
            have ne_p_n16 : ¬ g_p = g26 := ne_new k_p eg
            (try have na_r0 := Rd.ne_new r0 eg)
            (try have na_r1 := Rd.ne_new r1 eg)
            (try have na_r3 := Rd.ne_new r3 eg)
            replace k_r := bk bc k_r
            replace k_c := bk bc k_c
            replace k_q := bk bc k_q
            replace k_p := bk bc k_p
            replace bw := bst bc bw
            (try replace r0 := (r0.below bc).more bc.size)
            (try replace r1 := (r1.below bc).more bc.size)
            (try replace r3 := (r3.below bc).more bc.size)
            clear bc eY eg
            refine wpAnyH_ready (rs := [7]) (by kernel_rfl) (by simp) ?_
            refine (AllReadyH.cons rfl (fun K hK => ?_) AllReadyH.nil)
            go_simp
            refine hK.out _ _ ⟨cka hHeld.1, cka hHeld.2.1, cka hHeld.2.2.1, cka hHeld.2.2.2.1, cka hHeld.2.2.2.2.1, cka hHeld.2.2.2.2.2.1, cka hHeld.2.2.2.2.2.2.1, cka hHeld.2.2.2.2.2.2.2⟩ (fun hHeld => ?_)
            clear hK K
            (try simp only [List.setIfInBounds_toArray, List.set_cons_zero, List.set_cons_succ])
            obtain ⟨X27, g27, eY, eg⟩ : ∃ Y g, Y = X26.alloc (.cells #[.int .i64 1, .int .i64 x, .int .i64 y, .int .i64 z.a, .int .i64 z.b, .int .i64 z.c, .int .i64 z.d, .int .i64 0, .int .i64 0, .int .i64 0, .int .i64 0] 34) ∧ g = X26.heap.size := ⟨_, _, rfl, rfl⟩
            rw [← eY, ← eg]
            rw [← eY] at hHeld
            have bc : Below X26.heap.size X26 X27 := by rw [eY]; exact (Below.refl _ _).alloc (Nat.le_refl _) _
            have k_n39 : X27.heap[g27]? = some (.cells #[.int .i64 1, .int .i64 x, .int .i64 y, .int .i64 z.a, .int .i64 z.b, .int .i64 z.c, .int .i64 z.d, .int .i64 0, .int .i64 0, .int .i64 0, .int .i64 0] 34 (0, 0)) := by rw [eY, eg]; exact heap_alloc_new X26 _
            have ne_n39_n16 : ¬ g27 = g26 := fun e => ne_new k_n16 eg e.symm
            replace k_r := bk bc k_r
            replace k_c := bk bc k_c
            replace k_q := bk bc k_q
            replace k_p := bk bc k_p
            replace k_n16 := bk bc k_n16
            replace bw := bst bc bw
            (try replace r0 := (r0.below bc).more bc.size)
            (try replace r1 := (r1.below bc).more bc.size)
            (try replace r3 := (r3.below bc).more bc.size)
            clear bc eY eg
            refine wpAnyH_ready (rs := [8]) (by kernel_rfl) (by simp) ?_
            refine (AllReadyH.cons rfl (fun K hK => ?_) AllReadyH.nil)
            go_simp
            refine ((nrgbaRun_any a b c d N h3 h4 h5 h6 HN.out n c0 A0 zs 1 1 _ [⟨1, x, y, z, ⟨0, 0, 0, 0⟩⟩] _ r0 (RdSteps.of_block (ss := [⟨1, x, y, z, ⟨0, 0, 0, 0⟩⟩]) (m := 1) k_n39 rfl rfl (by decide) OK1.out)).mono (fun _ _ h => h.lite (k := 0) (cs := []) (bs := wrAt (byt N zs) a b c d x y z) E1.out.1 E1.out.2 rfl)).mono ?_
            rintro e X28 ⟨A1f, c1f, A2f, n2f, c2f, A3, c3f, rfl, raf, r3, laf, lo3, bc⟩
            refine hK.out _ _ ⟨ck bc hHeld.1, ck bc hHeld.2.1, ck bc hHeld.2.2.1, ck bc hHeld.2.2.2.1, ck bc hHeld.2.2.2.2.1, ck bc hHeld.2.2.2.2.2.1, ck bc hHeld.2.2.2.2.2.2.1, ck bc hHeld.2.2.2.2.2.2.2⟩ (fun hHeld => ?_)
            clear hK K
            (try simp only [List.setIfInBounds_toArray, List.set_cons_zero, List.set_cons_succ])
            have na_r3 := lo_ne (n := N) lo3 k_n16
            replace k_r := bk bc k_r
            replace k_c := bk bc k_c
            replace k_q := bk bc k_q
            replace k_p := bk bc k_p
            replace k_n16 := bk bc k_n16
            replace k_n39 := bk bc k_n39
            replace bw := bst bc bw
            (try replace r0 := (r0.below bc).more bc.size)
            (try replace r1 := (r1.below bc).more bc.size)
            (try replace r3 := (r3.below bc).more bc.size)
            clear bc
            refine takx (i := 9) (D := 31) (v := .tuple #[.slice A1f 0 c1f, .slice A2f n2f c2f, .agg #[.int .i64 a, .int .i64 b, .int .i64 c, .int .i64 d, .int .i64 (4 * (c - a)), .slice A3 N c3f]]) rfl rfl (by kernel_rfl) (by kernel_rfl) (by kernel_rfl) (fun _ _ _ h => h) (Or.inl ⟨by rfl, fun W hSw => by (try dsimp only at hSw); go_simp⟩) (by assumption) ?_
            (try simp only [List.setIfInBounds_toArray, List.set_cons_zero, List.set_cons_succ])
            refine takx (i := 10) (D := 41) (v := .slice A1f 0 c1f) rfl rfl (by kernel_rfl) (by kernel_rfl) (by kernel_rfl) (fun _ _ _ h => h) (Or.inl ⟨by rfl, fun W hSw => by (try dsimp only at hSw); go_simp⟩) (by assumption) ?_
            (try simp only [List.setIfInBounds_toArray, List.set_cons_zero, List.set_cons_succ])
            refine takx (i := 11) (D := 42) (v := .slice A2f n2f c2f) rfl rfl (by kernel_rfl) (by kernel_rfl) (by kernel_rfl) (fun _ _ _ h => h) (Or.inl ⟨by rfl, fun W hSw => by (try dsimp only at hSw); go_simp⟩) (by assumption) ?_
            (try simp only [List.setIfInBounds_toArray, List.set_cons_zero, List.set_cons_succ])
            refine takx (i := 12) (D := 43) (v := .agg #[.int .i64 a, .int .i64 b, .int .i64 c, .int .i64 d, .int .i64 (4 * (c - a)), .slice A3 N c3f]) rfl rfl (by kernel_rfl) (by kernel_rfl) (by kernel_rfl) (fun _ _ _ h => h) (Or.inl ⟨by rfl, fun W hSw => by (try dsimp only at hSw); go_simp⟩) (by assumption) ?_
            (try simp only [List.setIfInBounds_toArray, List.set_cons_zero, List.set_cons_succ])
            refine takx (i := 14) (D := 14) (v := .slice A1f 0 c1f) rfl rfl (by kernel_rfl) (by kernel_rfl) (by kernel_rfl) (fun _ _ _ h => h) (Or.inl ⟨by rfl, fun W hSw => by (try dsimp only at hSw); go_simp⟩) (by assumption) ?_
            (try simp only [List.setIfInBounds_toArray, List.set_cons_zero, List.set_cons_succ])
            refine takx (i := 15) (D := 15) (v := .slice A2f n2f c2f) rfl rfl (by kernel_rfl) (by kernel_rfl) (by kernel_rfl) (fun _ _ _ h => h) (Or.inl ⟨by rfl, fun W hSw => by (try dsimp only at hSw); go_simp⟩) (by assumption) ?_
            (try simp only [List.setIfInBounds_toArray, List.set_cons_zero, List.set_cons_succ])
            refine wpAnyH_ready (rs := [16]) (by kernel_rfl) (by simp) ?_
            refine (AllReadyH.cons rfl (fun K hK => ?_) AllReadyH.nil)
            have qq := q6c k_n16
            go_simp
            clear qq
            refine hK.out _ _ ⟨(cks ne_q_n16 (cks ne_q_n16 (cks ne_q_n16 (cks ne_q_n16 (cks ne_q_n16 (cks ne_q_n16 hHeld.1)))))), (cks ne_q_n16 (cks ne_q_n16 (cks ne_q_n16 (cks ne_q_n16 (cks ne_q_n16 (cks ne_q_n16 hHeld.2.1)))))), (cks ne_q_n16 (cks ne_q_n16 (cks ne_q_n16 (cks ne_q_n16 (cks ne_q_n16 (cks ne_q_n16 hHeld.2.2.1)))))), (cks ne_q_n16 (cks ne_q_n16 (cks ne_q_n16 (cks ne_q_n16 (cks ne_q_n16 (cks ne_q_n16 hHeld.2.2.2.1)))))), (cks ne_c_n16 (cks ne_c_n16 (cks ne_c_n16 (cks ne_c_n16 (cks ne_c_n16 (cks ne_c_n16 hHeld.2.2.2.2.1)))))), (cks ne_c_n16 (cks ne_c_n16 (cks ne_c_n16 (cks ne_c_n16 (cks ne_c_n16 (cks ne_c_n16 hHeld.2.2.2.2.2.1)))))), (cks ne_c_n16 (cks ne_c_n16 (cks ne_c_n16 (cks ne_c_n16 (cks ne_c_n16 (cks ne_c_n16 hHeld.2.2.2.2.2.2.1)))))), (cks ne_c_n16 (cks ne_c_n16 (cks ne_c_n16 (cks ne_c_n16 (cks ne_c_n16 (cks ne_c_n16 hHeld.2.2.2.2.2.2.2))))))⟩ (fun hHeld => ?_)
            clear hK K
            (try simp only [List.setIfInBounds_toArray, List.set_cons_zero, List.set_cons_succ])
            obtain ⟨X29, eY⟩ : ∃ Y, Y = ((((((X28.setCell ⟨g26, 0, none⟩ (.int .i64 a)).setCell ⟨g26, 1, none⟩ (.int .i64 b)).setCell ⟨g26, 2, none⟩ (.int .i64 c)).setCell ⟨g26, 3, none⟩ (.int .i64 d)).setCell ⟨g26, 4, none⟩ (.int .i64 (4 * (c - a)))).setCell ⟨g26, 5, none⟩ (.slice A3 N c3f)) := ⟨_, rfl⟩
            rw [← eY] at hHeld ⊢
            replace k_r : X29.heap[w.heap.size]? = some (.cells #[.int .i64 a, .int .i64 b, .int .i64 c, .int .i64 d] 23 (0, 0)) := by rw [eY]; exact (bks ne_r_n16 (bks ne_r_n16 (bks ne_r_n16 (bks ne_r_n16 (bks ne_r_n16 (bks ne_r_n16 k_r))))))
            replace k_c : X29.heap[w.heap.size + 1]? = some (.cells #[.int .i64 z.a, .int .i64 z.b, .int .i64 z.c, .int .i64 z.d] 44 (0, 0)) := by rw [eY]; exact (bks ne_c_n16 (bks ne_c_n16 (bks ne_c_n16 (bks ne_c_n16 (bks ne_c_n16 (bks ne_c_n16 k_c))))))
            replace k_q : X29.heap[g_q]? = some (.cells #[.int .i64 a, .int .i64 b, .int .i64 c, .int .i64 d] 25 (0, 0)) := by rw [eY]; exact (bks ne_q_n16 (bks ne_q_n16 (bks ne_q_n16 (bks ne_q_n16 (bks ne_q_n16 (bks ne_q_n16 k_q))))))
            replace k_p : X29.heap[g_p]? = some (.cells #[.int .i64 a, .int .i64 b, .int .i64 c, .int .i64 d, .int .i64 (4 * (c - a)), .slice A1 N cp1] 37 (0, 0)) := by rw [eY]; exact (bks ne_p_n16 (bks ne_p_n16 (bks ne_p_n16 (bks ne_p_n16 (bks ne_p_n16 (bks ne_p_n16 k_p))))))
            replace k_n39 : X29.heap[g27]? = some (.cells #[.int .i64 1, .int .i64 x, .int .i64 y, .int .i64 z.a, .int .i64 z.b, .int .i64 z.c, .int .i64 z.d, .int .i64 0, .int .i64 0, .int .i64 0, .int .i64 0] 34 (0, 0)) := by rw [eY]; exact (bks ne_n39_n16 (bks ne_n39_n16 (bks ne_n39_n16 (bks ne_n39_n16 (bks ne_n39_n16 (bks ne_n39_n16 k_n39))))))
            replace bw : Below w.heap.size w X29 := by rw [eY]; exact (bss lo_n16 (bss lo_n16 (bss lo_n16 (bss lo_n16 (bss lo_n16 (bss lo_n16 bw))))))
            replace k_n16 : X29.heap[g26]? = some (.cells #[.int .i64 a, .int .i64 b, .int .i64 c, .int .i64 d, .int .i64 (4 * (c - a)), .slice A3 N c3f] 37 (0, 0)) := by rw [eY]; exact q6s k_n16
            (try replace r0 := Rd.sized (W := X29) (Rd.sset na_r0 (Rd.sset na_r0 (Rd.sset na_r0 (Rd.sset na_r0 (Rd.sset na_r0 (Rd.sset na_r0 r0)))))) eY)
            (try replace r1 := Rd.sized (W := X29) (Rd.sset na_r1 (Rd.sset na_r1 (Rd.sset na_r1 (Rd.sset na_r1 (Rd.sset na_r1 (Rd.sset na_r1 r1)))))) eY)
            (try replace r3 := Rd.sized (W := X29) (Rd.sset na_r3 (Rd.sset na_r3 (Rd.sset na_r3 (Rd.sset na_r3 (Rd.sset na_r3 (Rd.sset na_r3 r3)))))) eY)
            clear eY
            refine wpAnyH_done (by kernel_rfl) ?_ _
            go_wp2_with fail
            go_meet
            exact ⟨_, A1f, c1f, A2f, n2f, c2f, A3, c3f, rfl, rfl, rfl, k_n16, k_r, k_c, k_q, k_p, r0, r1, r3, bw⟩
        · go_simp
          refine hK.out _ _ ⟨cka hHeld.1, cka hHeld.2.1, cka hHeld.2.2.1, cka hHeld.2.2.2.1, cka hHeld.2.2.2.2.1, cka hHeld.2.2.2.2.2.1, cka hHeld.2.2.2.2.2.2.1, cka hHeld.2.2.2.2.2.2.2⟩ (fun hHeld => ?_)
          clear hK K
          (try simp only [List.setIfInBounds_toArray, List.set_cons_zero, List.set_cons_succ])
          obtain ⟨X30, g30, eY, eg⟩ : ∃ Y g, Y = X17.alloc (.cells #[.int .i64 0, .int .i64 0, .int .i64 0, .int .i64 0, .int .i64 0, .slice none 0 0] 37) ∧ g = X17.heap.size := ⟨_, _, rfl, rfl⟩
          rw [← eY, ← eg]
          rw [← eY] at hHeld
          have bc : Below X17.heap.size X17 X30 := by rw [eY]; exact (Below.refl _ _).alloc (Nat.le_refl _) _
          have k_n16 : X30.heap[g30]? = some (.cells #[.int .i64 0, .int .i64 0, .int .i64 0, .int .i64 0, .int .i64 0, .slice none 0 0] 37 (0, 0)) := by rw [eY, eg]; exact heap_alloc_new X17 _
          have lo_n16 : w.heap.size ≤ g30 := by rw [eg]; exact bw.size
          have ne_r_n16 : ¬ w.heap.size = g30 := ne_new k_r eg
          have ne_c_n16 : ¬ w.heap.size + 1 = g30 := ne_new k_c eg
          have ne_q_n16 : ¬ g_q = g30 := ne_new k_q eg
          have ne_p_n16 : ¬ g_p = g30 := ne_new k_p eg
          (try have na_r0 := Rd.ne_new r0 eg)
          (try have na_r1 := Rd.ne_new r1 eg)
          (try have na_r3 := Rd.ne_new r3 eg)
          replace k_r := bk bc k_r
          replace k_c := bk bc k_c
          replace k_q := bk bc k_q
          replace k_p := bk bc k_p
          replace bw := bst bc bw
          (try replace r0 := (r0.below bc).more bc.size)
          (try replace r1 := (r1.below bc).more bc.size)
          (try replace r3 := (r3.below bc).more bc.size)
          clear bc eY eg
          refine wpAnyH_ready (rs := [5]) (by kernel_rfl) (by simp) ?_
          refine (AllReadyH.cons rfl (fun K hK => ?_) AllReadyH.nil)
          go_simp
          refine (toColor4 z.a z.b z.c z.d _).mono ?_
          rintro e X31 ⟨rfl, bc⟩
          refine hK.out _ _ ⟨ck bc hHeld.1, ck bc hHeld.2.1, ck bc hHeld.2.2.1, ck bc hHeld.2.2.2.1, ck bc hHeld.2.2.2.2.1, ck bc hHeld.2.2.2.2.2.1, ck bc hHeld.2.2.2.2.2.2.1, ck bc hHeld.2.2.2.2.2.2.2⟩ (fun hHeld => ?_)
          clear hK K
          (try simp only [List.setIfInBounds_toArray, List.set_cons_zero, List.set_cons_succ])
          replace k_r := bk bc k_r
          replace k_c := bk bc k_c
          replace k_q := bk bc k_q
          replace k_p := bk bc k_p
          replace k_n16 := bk bc k_n16
          replace bw := bst bc bw
          (try replace r0 := (r0.below bc).more bc.size)
          (try replace r1 := (r1.below bc).more bc.size)
          (try replace r3 := (r3.below bc).more bc.size)
          clear bc
          refine takx (i := 6) (D := 38) (v := .agg #[.int .i64 1, .int .i64 x, .int .i64 y, .int .i64 z.a, .int .i64 z.b, .int .i64 z.c, .int .i64 z.d, .int .i64 0, .int .i64 0, .int .i64 0, .int .i64 0]) rfl rfl (by kernel_rfl) (by kernel_rfl) (by kernel_rfl) (fun _ _ _ h => h) (Or.inl ⟨by rfl, fun W hSw => by (try dsimp only at hSw); go_simp⟩) (by assumption) ?_
          (try simp only [List.setIfInBounds_toArray, List.set_cons_zero, List.set_cons_succ])
          refine wpAnyH_ready (rs := [7]) (by kernel_rfl) (by simp) ?_
          refine (AllReadyH.cons rfl (fun K hK => ?_) AllReadyH.nil)
          go_simp
          refine hK.out _ _ ⟨cka hHeld.1, cka hHeld.2.1, cka hHeld.2.2.1, cka hHeld.2.2.2.1, cka hHeld.2.2.2.2.1, cka hHeld.2.2.2.2.2.1, cka hHeld.2.2.2.2.2.2.1, cka hHeld.2.2.2.2.2.2.2⟩ (fun hHeld => ?_)
          clear hK K
          (try simp only [List.setIfInBounds_toArray, List.set_cons_zero, List.set_cons_succ])
          obtain ⟨X32, g32, eY, eg⟩ : ∃ Y g, Y = X31.alloc (.cells #[.int .i64 1, .int .i64 x, .int .i64 y, .int .i64 z.a, .int .i64 z.b, .int .i64 z.c, .int .i64 z.d, .int .i64 0, .int .i64 0, .int .i64 0, .int .i64 0] 34) ∧ g = X31.heap.size := ⟨_, _, rfl, rfl⟩
          rw [← eY, ← eg]
          rw [← eY] at hHeld
          have bc : Below X31.heap.size X31 X32 := by rw [eY]; exact (Below.refl _ _).alloc (Nat.le_refl _) _
          have k_n39 : X32.heap[g32]? = some (.cells #[.int .i64 1, .int .i64 x, .int .i64 y, .int .i64 z.a, .int .i64 z.b, .int .i64 z.c, .int .i64 z.d, .int .i64 0, .int .i64 0, .int .i64 0, .int .i64 0] 34 (0, 0)) := by rw [eY, eg]; exact heap_alloc_new X31 _
          have ne_n39_n16 : ¬ g32 = g30 := fun e => ne_new k_n16 eg e.symm
          replace k_r := bk bc k_r
          replace k_c := bk bc k_c
          replace k_q := bk bc k_q
          replace k_p := bk bc k_p
          replace k_n16 := bk bc k_n16
          replace bw := bst bc bw
          (try replace r0 := (r0.below bc).more bc.size)
          (try replace r1 := (r1.below bc).more bc.size)
          (try replace r3 := (r3.below bc).more bc.size)
          clear bc eY eg
          refine wpAnyH_ready (rs := [8]) (by kernel_rfl) (by simp) ?_
          refine (AllReadyH.cons rfl (fun K hK => ?_) AllReadyH.nil)
          go_simp
          refine ((nrgbaRun_any a b c d N h3 h4 h5 h6 HN.out n c0 A0 zs 1 1 _ [⟨1, x, y, z, ⟨0, 0, 0, 0⟩⟩] _ r0 (RdSteps.of_block (ss := [⟨1, x, y, z, ⟨0, 0, 0, 0⟩⟩]) (m := 1) k_n39 rfl rfl (by decide) OK1.out)).mono (fun _ _ h => h.lite (k := 0) (cs := []) (bs := wrAt (byt N zs) a b c d x y z) E1.out.1 E1.out.2 rfl)).mono ?_
          rintro e X33 ⟨A1f, c1f, A2f, n2f, c2f, A3, c3f, rfl, raf, r3, laf, lo3, bc⟩
          refine hK.out _ _ ⟨ck bc hHeld.1, ck bc hHeld.2.1, ck bc hHeld.2.2.1, ck bc hHeld.2.2.2.1, ck bc hHeld.2.2.2.2.1, ck bc hHeld.2.2.2.2.2.1, ck bc hHeld.2.2.2.2.2.2.1, ck bc hHeld.2.2.2.2.2.2.2⟩ (fun hHeld => ?_)
          clear hK K
          (try simp only [List.setIfInBounds_toArray, List.set_cons_zero, List.set_cons_succ])
          have na_r3 := lo_ne (n := N) lo3 k_n16
          replace k_r := bk bc k_r
          replace k_c := bk bc k_c
          replace k_q := bk bc k_q
          replace k_p := bk bc k_p
          replace k_n16 := bk bc k_n16
          replace k_n39 := bk bc k_n39
          replace bw := bst bc bw
          (try replace r0 := (r0.below bc).more bc.size)
          (try replace r1 := (r1.below bc).more bc.size)
          (try replace r3 := (r3.below bc).more bc.size)
          clear bc
          refine takx (i := 9) (D := 31) (v := .tuple #[.slice A1f 0 c1f, .slice A2f n2f c2f, .agg #[.int .i64 a, .int .i64 b, .int .i64 c, .int .i64 d, .int .i64 (4 * (c - a)), .slice A3 N c3f]]) rfl rfl (by kernel_rfl) (by kernel_rfl) (by kernel_rfl) (fun _ _ _ h => h) (Or.inl ⟨by rfl, fun W hSw => by (try dsimp only at hSw); go_simp⟩) (by assumption) ?_
          (try simp only [List.setIfInBounds_toArray, List.set_cons_zero, List.set_cons_succ])
          refine takx (i := 10) (D := 41) (v := .slice A1f 0 c1f) rfl rfl (by kernel_rfl) (by kernel_rfl) (by kernel_rfl) (fun _ _ _ h => h) (Or.inl ⟨by rfl, fun W hSw => by (try dsimp only at hSw); go_simp⟩) (by assumption) ?_
          (try simp only [List.setIfInBounds_toArray, List.set_cons_zero, List.set_cons_succ])
          refine takx (i := 11) (D := 42) (v := .slice A2f n2f c2f) rfl rfl (by kernel_rfl) (by kernel_rfl) (by kernel_rfl) (fun _ _ _ h => h) (Or.inl ⟨by rfl, fun W hSw => by (try dsimp only at hSw); go_simp⟩) (by assumption) ?_
          (try simp only [List.setIfInBounds_toArray, List.set_cons_zero, List.set_cons_succ])
          refine takx (i := 12) (D := 43) (v := .agg #[.int .i64 a, .int .i64 b, .int .i64 c, .int .i64 d, .int .i64 (4 * (c - a)), .slice A3 N c3f]) rfl rfl (by kernel_rfl) (by kernel_rfl) (by kernel_rfl) (fun _ _ _ h => h) (Or.inl ⟨by rfl, fun W hSw => by (try dsimp only at hSw); go_simp⟩) (by assumption) ?_
          (try simp only [List.setIfInBounds_toArray, List.set_cons_zero, List.set_cons_succ])
          refine takx (i := 14) (D := 14) (v := .slice A1f 0 c1f) rfl rfl (by kernel_rfl) (by kernel_rfl) (by kernel_rfl) (fun _ _ _ h => h) (Or.inl ⟨by rfl, fun W hSw => by (try dsimp only at hSw); go_simp⟩) (by assumption) ?_
          (try simp only [List.setIfInBounds_toArray, List.set_cons_zero, List.set_cons_succ])
          refine takx (i := 15) (D := 15) (v := .slice A2f n2f c2f) rfl rfl (by kernel_rfl) (by kernel_rfl) (by kernel_rfl) (fun _ _ _ h => h) (Or.inl ⟨by rfl, fun W hSw => by (try dsimp only at hSw); go_simp⟩) (by assumption) ?_
          (try simp only [List.setIfInBounds_toArray, List.set_cons_zero, List.set_cons_succ])
          refine wpAnyH_ready (rs := [16]) (by kernel_rfl) (by simp) ?_
          refine (AllReadyH.cons rfl (fun K hK => ?_) AllReadyH.nil)
          have qq := q6c k_n16
          go_simp
          clear qq
          refine hK.out _ _ ⟨(cks ne_q_n16 (cks ne_q_n16 (cks ne_q_n16 (cks ne_q_n16 (cks ne_q_n16 (cks ne_q_n16 hHeld.1)))))), (cks ne_q_n16 (cks ne_q_n16 (cks ne_q_n16 (cks ne_q_n16 (cks ne_q_n16 (cks ne_q_n16 hHeld.2.1)))))), (cks ne_q_n16 (cks ne_q_n16 (cks ne_q_n16 (cks ne_q_n16 (cks ne_q_n16 (cks ne_q_n16 hHeld.2.2.1)))))), (cks ne_q_n16 (cks ne_q_n16 (cks ne_q_n16 (cks ne_q_n16 (cks ne_q_n16 (cks ne_q_n16 hHeld.2.2.2.1)))))), (cks ne_c_n16 (cks ne_c_n16 (cks ne_c_n16 (cks ne_c_n16 (cks ne_c_n16 (cks ne_c_n16 hHeld.2.2.2.2.1)))))), (cks ne_c_n16 (cks ne_c_n16 (cks ne_c_n16 (cks ne_c_n16 (cks ne_c_n16 (cks ne_c_n16 hHeld.2.2.2.2.2.1)))))), (cks ne_c_n16 (cks ne_c_n16 (cks ne_c_n16 (cks ne_c_n16 (cks ne_c_n16 (cks ne_c_n16 hHeld.2.2.2.2.2.2.1)))))), (cks ne_c_n16 (cks ne_c_n16 (cks ne_c_n16 (cks ne_c_n16 (cks ne_c_n16 (cks ne_c_n16 hHeld.2.2.2.2.2.2.2))))))⟩ (fun hHeld => ?_)
          clear hK K
          (try simp only [List.setIfInBounds_toArray, List.set_cons_zero, List.set_cons_succ])
          obtain ⟨X34, eY⟩ : ∃ Y, Y = ((((((X33.setCell ⟨g30, 0, none⟩ (.int .i64 a)).setCell ⟨g30, 1, none⟩ (.int .i64 b)).setCell ⟨g30, 2, none⟩ (.int .i64 c)).setCell ⟨g30, 3, none⟩ (.int .i64 d)).setCell ⟨g30, 4, none⟩ (.int .i64 (4 * (c - a)))).setCell ⟨g30, 5, none⟩ (.slice A3 N c3f)) := ⟨_, rfl⟩
          rw [← eY] at hHeld ⊢
          replace k_r : X34.heap[w.heap.size]? = some (.cells #[.int .i64 a, .int .i64 b, .int .i64 c, .int .i64 d] 23 (0, 0)) := by rw [eY]; exact (bks ne_r_n16 (bks ne_r_n16 (bks ne_r_n16 (bks ne_r_n16 (bks ne_r_n16 (bks ne_r_n16 k_r))))))
          replace k_c : X34.heap[w.heap.size + 1]? = some (.cells #[.int .i64 z.a, .int .i64 z.b, .int .i64 z.c, .int .i64 z.d] 44 (0, 0)) := by rw [eY]; exact (bks ne_c_n16 (bks ne_c_n16 (bks ne_c_n16 (bks ne_c_n16 (bks ne_c_n16 (bks ne_c_n16 k_c))))))
          replace k_q : X34.heap[g_q]? = some (.cells #[.int .i64 a, .int .i64 b, .int .i64 c, .int .i64 d] 25 (0, 0)) := by rw [eY]; exact (bks ne_q_n16 (bks ne_q_n16 (bks ne_q_n16 (bks ne_q_n16 (bks ne_q_n16 (bks ne_q_n16 k_q))))))
          replace k_p : X34.heap[g_p]? = some (.cells #[.int .i64 a, .int .i64 b, .int .i64 c, .int .i64 d, .int .i64 (4 * (c - a)), .slice A1 N cp1] 37 (0, 0)) := by rw [eY]; exact (bks ne_p_n16 (bks ne_p_n16 (bks ne_p_n16 (bks ne_p_n16 (bks ne_p_n16 (bks ne_p_n16 k_p))))))
          replace k_n39 : X34.heap[g32]? = some (.cells #[.int .i64 1, .int .i64 x, .int .i64 y, .int .i64 z.a, .int .i64 z.b, .int .i64 z.c, .int .i64 z.d, .int .i64 0, .int .i64 0, .int .i64 0, .int .i64 0] 34 (0, 0)) := by rw [eY]; exact (bks ne_n39_n16 (bks ne_n39_n16 (bks ne_n39_n16 (bks ne_n39_n16 (bks ne_n39_n16 (bks ne_n39_n16 k_n39))))))
          replace bw : Below w.heap.size w X34 := by rw [eY]; exact (bss lo_n16 (bss lo_n16 (bss lo_n16 (bss lo_n16 (bss lo_n16 (bss lo_n16 bw))))))
          replace k_n16 : X34.heap[g30]? = some (.cells #[.int .i64 a, .int .i64 b, .int .i64 c, .int .i64 d, .int .i64 (4 * (c - a)), .slice A3 N c3f] 37 (0, 0)) := by rw [eY]; exact q6s k_n16
          (try replace r0 := Rd.sized (W := X34) (Rd.sset na_r0 (Rd.sset na_r0 (Rd.sset na_r0 (Rd.sset na_r0 (Rd.sset na_r0 (Rd.sset na_r0 r0)))))) eY)
          (try replace r1 := Rd.sized (W := X34) (Rd.sset na_r1 (Rd.sset na_r1 (Rd.sset na_r1 (Rd.sset na_r1 (Rd.sset na_r1 (Rd.sset na_r1 r1)))))) eY)
          (try replace r3 := Rd.sized (W := X34) (Rd.sset na_r3 (Rd.sset na_r3 (Rd.sset na_r3 (Rd.sset na_r3 (Rd.sset na_r3 (Rd.sset na_r3 r3)))))) eY)
          clear eY
          refine wpAnyH_done (by kernel_rfl) ?_ _
          go_wp2_with fail
          go_meet
          exact ⟨_, A1f, c1f, A2f, n2f, c2f, A3, c3f, rfl, rfl, rfl, k_n16, k_r, k_c, k_q, k_p, r0, r1, r3, bw⟩
      case rest =>
        clear k_r k_c k_q k_p bw
        obtain ⟨g_o, A1f, c1f, A2f, n2f, c2f, A3, c3f, rfl, rfl, rfl, k_o, k_r, k_c, k_q, k_p, R0, R1, R3, BW⟩ := hcut
        have bw := BW.out
        clear BW
        have r0 := R0.out
        have r1 := R1.out
        have rbf := R3.out
        clear R0 R1 R3
        have q_r := q4c k_r
        have q_c := q4c k_c
        have q_q := q4c k_q
        have q_p := q6c k_p
        have q_o := q6c k_o
        go_wp2_with fail
        refine (same_b _ _ _ _ _ zs _ r0 ((HR.out.below bw).more bw.size)).mono ?_
        rintro e Y36 ⟨rfl, bc⟩
        clear q_r q_c q_q q_p q_o
        replace k_r := bk bc k_r
        replace k_c := bk bc k_c
        replace k_q := bk bc k_q
        replace k_p := bk bc k_p
        replace k_o := bk bc k_o
        replace bw := bst bc bw
        (try replace r0 := (r0.below bc).more bc.size)
        (try replace r1 := (r1.below bc).more bc.size)
        (try replace rbf := (rbf.below bc).more bc.size)
        clear bc
        have q_r := q4c k_r
        have q_c := q4c k_c
        have q_q := q4c k_q
        have q_p := q6c k_p
        have q_o := q6c k_o
        go_wp2_with fail
        refine (samePic_true _ _ _ _ _ _ _ _ _ _ _ _ r1 rbf).mono ?_
        rintro e Y37 ⟨rfl, bc⟩
        clear q_r q_c q_q q_p q_o
        replace k_r := bk bc k_r
        replace k_c := bk bc k_c
        replace k_q := bk bc k_q
        replace k_p := bk bc k_p
        replace k_o := bk bc k_o
        replace bw := bst bc bw
        (try replace r0 := (r0.below bc).more bc.size)
        (try replace r1 := (r1.below bc).more bc.size)
        (try replace rbf := (rbf.below bc).more bc.size)
        clear bc
        go_wp2
        go_ret
        first | exact ⟨rfl, bw⟩ | exact ⟨trivial, bw⟩

end Go.Proofs.Ytkhofahobcegiaa

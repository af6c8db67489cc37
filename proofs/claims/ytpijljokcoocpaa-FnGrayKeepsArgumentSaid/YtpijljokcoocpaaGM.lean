/-
  The walk of the law FnGrayKeepsArgument. No condition.
-/
import Derived.Test.YtpijljokcoocpaaGH
import Derived.Test.YtpijljokcoocpaaR5
namespace Go.Proofs.Ytpijljokcoocpaa
open Go.ChangeShapes Go.WideShapes Go.ChangeAt Go.RowKit
set_option linter.unusedVariables false
set_option linter.unusedSimpArgs false

theorem app_nil (ty cp : Nat) (W : World) : (Builtin.append_ #[27, 27] ty #[.slice none 0 0, .slice none 0 cp]).run Try.prog W = .ok (.slice none 0 0) W := by
  obtain ⟨i0, hi, hz0, hz1, hz2⟩ := info_parts (show (Try.prog.info? 3).map (fun i => (i.zero, i.size, i.bytes)) = some (some (.int .i64 0), 1, 8) from by kernel_rfl)
  simp [Builtin.append_, run_underlying Try.underlying27, sizeOf, typeInfo, hi, Builtin.lenOf, Builtin.firstCells]
theorem painted_whole {R : Q4} {bs : List Int} {x y : Int} {z : Int} : painted R (some R) bs x y z = wrAt bs R.a R.b R.c R.d x y z := by
  by_cases h : In R.a R.b R.c R.d x y
  · exact painted_in h
  · rw [wrAt_out h]; unfold painted; rw [if_neg (fun k => h (vis_some.1 k))]
theorem same_b (A1 A2 : Option Addr) (n c1 c2 : Nat) (zs : List Int) (w : World) (h1 : Rd w w.heap.size A1 n zs) (h2 : Rd w w.heap.size A2 n zs) :
    Calls Try.prog 46 #[.slice A1 n c1, .slice A2 n c2] w fun e w' => e = .returned (.bool true) ∧ Below w.heap.size w w' :=
  (same_true A1 A2 n c1 c2 _ _ zs w h1 h2).mono fun _ _ ⟨h, k, hk⟩ => ⟨h, by rw [hk]; exact below_drewN (Below.refl _ _) k⟩

set_option maxRecDepth 100000 in
set_option maxHeartbeats 8000000 in
theorem fnGrayKeepsArgument_walk (w : World) (q : Q4) (hq : q.ok) (Z : Option Addr) (n cp : Nat) (zs : List Int) (hr : Rd w w.heap.size Z n zs) (x : Int) (hx : I64 x) (y : Int) (hy : I64 y) (z : Int) (hz : I64 z) :
    Calls Try.prog 20 #[q.val, .slice Z n cp, .int .i64 x, .int .i64 y, .int .i64 z] w fun e w' => e = .returned (.bool true) ∧ Below w.heap.size w w' := by
  obtain ⟨a, b, c, d⟩ := q
  obtain ⟨ha, hb, hc, hd⟩ := hq
  show Calls Try.prog 20 #[.agg #[.int .i64 a, .int .i64 b, .int .i64 c, .int .i64 d], .slice Z n cp, .int .i64 x, .int .i64 y, .int .i64 z] w _
  have hrs := rect_same a b c d
  have hrd := rect_diff a b c d
  have hp0 := fun st v => pfld0 a b c d st v
  have hp2 := fun st A n cp => pfld2 a b c d st A n cp
  have HR := Lib.hid hr
  clear hr
  by_cases hf : Fine a b c d
  case neg =>
    have HF := Lib.hid hf
    clear hf
    go_enter Try.func20, Try.ntmps20
    go_upto_region 1 with fail
    obtain ⟨W, hW⟩ : ∃ W, W = (w.alloc (.cells #[.int .i64 a, .int .i64 b, .int .i64 c, .int .i64 d] 23)) := ⟨_, rfl⟩
    have bw : Below w.heap.size w W := by rw [hW]; exact (bsa (Below.refl _ _))
    have k_r : W.heap[w.heap.size]? = some (.cells #[.int .i64 a, .int .i64 b, .int .i64 c, .int .i64 d] 23 (0, 0)) := by rw [hW]; exact heap_alloc_new w _
    rw [← hW]
    clear hW
    have q_r := q4c k_r
    go_wp2_with fail
    refine (fine_no a b c d ha hb hc hd HF.out _).mono ?_
    rintro e Y1 ⟨rfl, bc⟩
    clear q_r
    replace k_r := bk bc k_r
    replace bw := bst bc bw
    clear bc
    go_wp2
    go_ret
    first | exact ⟨rfl, bw⟩ | exact ⟨trivial, bw⟩
  obtain ⟨h3, h4, h5, h6, N, hN⟩ := fine_area hf
  have HF := Lib.hid hf
  have HN := Lib.hid hN
  clear hf hN
  have OK1 := Lib.hid (show ∀ u ∈ [(⟨1, x, y, ⟨z, 0, 0, 0⟩, ⟨0, 0, 0, 0⟩⟩ : Stp)], u.ok by
    intro u hu
    rw [List.mem_singleton] at hu
    subst hu
    refine ⟨?_, ?_, ?_, ?_, ?_⟩ <;> first | assumption | exact ⟨zero_ok, zero_ok, zero_ok, zero_ok⟩ | exact ⟨hz, zero_ok, zero_ok, zero_ok⟩ | (unfold I64; dsimp only; omega))
  have E1 := Lib.hid (show (grun ⟨a, b, c, d⟩ (gini ⟨a, b, c, d⟩ (byt N zs)) [⟨1, x, y, ⟨z, 0, 0, 0⟩, ⟨0, 0, 0, 0⟩⟩]).cs = [] ∧ (grun ⟨a, b, c, d⟩ (gini ⟨a, b, c, d⟩ (byt N zs)) [⟨1, x, y, ⟨z, 0, 0, 0⟩, ⟨0, 0, 0, 0⟩⟩]).bs = wrAt (byt N zs) a b c d x y (z % 256) by
    rw [run_cons, gstep1 _ _ _ rfl, run_nil]
    simp only [gini]
    first | exact ⟨rfl, painted_whole⟩ | exact ⟨trivial, painted_whole⟩)
  go_enter Try.func20, Try.ntmps20
  go_upto_region 1 with fail
  obtain ⟨W, hW⟩ : ∃ W, W = (w.alloc (.cells #[.int .i64 a, .int .i64 b, .int .i64 c, .int .i64 d] 23)) := ⟨_, rfl⟩
  have bw : Below w.heap.size w W := by rw [hW]; exact (bsa (Below.refl _ _))
  have k_r : W.heap[w.heap.size]? = some (.cells #[.int .i64 a, .int .i64 b, .int .i64 c, .int .i64 d] 23 (0, 0)) := by rw [hW]; exact heap_alloc_new w _
  rw [← hW]
  clear hW
  have q_r := q4c k_r
  go_wp2_with fail
  refine (fine_yes a b c d HF.out _).mono ?_
  rintro e Y1 ⟨rfl, bc⟩
  clear q_r
  replace k_r := bk bc k_r
  replace bw := bst bc bw
  clear bc
  have q_r := q4c k_r
  go_wp2_with fail
  refine (toRect4 a b c d _).mono ?_
  rintro e Y2 ⟨rfl, bc⟩
  clear q_r
  replace k_r := bk bc k_r
  replace bw := bst bc bw
  clear bc
  have q_r := q4c k_r
  go_upto_region 4 with fail
  clear q_r
  obtain ⟨Y3, g_q, eY, eg⟩ : ∃ Y g, Y = Y2.alloc (.cells #[.int .i64 a, .int .i64 b, .int .i64 c, .int .i64 d] 26) ∧ g = Y2.heap.size := ⟨_, _, rfl, rfl⟩
  rw [← eY, ← eg]
  have bc : Below Y2.heap.size Y2 Y3 := by rw [eY]; exact (Below.refl _ _).alloc (Nat.le_refl _) _
  have k_q : Y3.heap[g_q]? = some (.cells #[.int .i64 a, .int .i64 b, .int .i64 c, .int .i64 d] 26 (0, 0)) := by rw [eY, eg]; exact heap_alloc_new Y2 _
  replace k_r := bk bc k_r
  replace bw := bst bc bw
  clear bc eY eg
  go_cut [12] (fun s12 wx => ∃ (A0 : Option Addr) (c0 : Nat), s12 = .slice A0 n c0 ∧ wx.heap[w.heap.size]? = some (.cells #[.int .i64 a, .int .i64 b, .int .i64 c, .int .i64 d] 23 (0, 0)) ∧ wx.heap[g_q]? = some (.cells #[.int .i64 a, .int .i64 b, .int .i64 c, .int .i64 d] 26 (0, 0)) ∧ Hid (Rd wx wx.heap.size A0 n zs) ∧ Hid (Below w.heap.size w wx))
  case first =>
    have RX := Lib.hid ((HR.out.below bw).more bw.size)
    cases Z with
    | none =>
      obtain rfl : n = 0 := by
        rcases Nat.eq_zero_or_pos n with h | h
        · exact h
        · obtain ⟨_, _, hA, _⟩ := RX.out.2.2.2 h
          cases hA
      have hap := fun ty W => app_nil ty cp W
      go_wp2_with fail
      go_meet
      exact ⟨none, 0, rfl, k_r, k_q, by have := RX.out; rw [List.eq_nil_of_length_eq_zero this.1]; exact Rd.nil _ _ _, bw⟩
    | some ad =>
      have hn8 : n * 8 ≤ 140737488355328 := RX.out.2.1
      obtain ⟨i0, hi, hz0, hz1, hz2⟩ := info_parts (show (Try.prog.info? 3).map (fun i => (i.zero, i.size, i.bytes)) = some (some (.int .i64 0), 1, 8) from by kernel_rfl)
      go_wp2_with (first
        | (at_builtin; refine wpList_append_own _ rfl _ _ 27 rfl Y3.heap.size 3 i0 (.int .i64 0) 1 8 Try.underlying27 hi hz0 hz1 hz2 rfl (by decide) (.slice none 0 0) 0 [] rfl (World.ownsRow_nil _ _ _ _) ad n cp (zs.map (Value.int .i64)) rfl ?c0 ?c1 ?c2 ?c3 ?c4 ?c5 ?_))
      case c0 => simp [RX.out.1]
      case c1 =>
        intro j u hj
        have hjn : j < n := by have := (List.getElem?_eq_some_iff.1 hj).1; rw [List.length_map, RX.out.1] at this; exact this
        obtain ⟨b', off', hA, _, hc'⟩ := RX.out.2.2.2 (by omega)
        injection hA with hA
        subst hA
        rw [Addr.add_lit, hc' j hjn]
        rw [← hj]
        simp [List.getD, show j < zs.length by rw [RX.out.1]; exact hjn]
      case c2 => intro u hu; obtain ⟨v, _, rfl⟩ := List.mem_map.1 hu; rfl
      case c3 => unfold maxLen; omega
      case c4 => omega
      case c5 => exact Nat.le_refl _
      intro v' Y hown' hgrow _
      have bc : Below Y3.heap.size Y3 Y := (Below.refl _ _).grown hgrow (Nat.le_refl _) (by intro j hj; cases hj)
      (try simp only [List.nil_append, Nat.zero_add] at hown')
      obtain ⟨A0, c0, rfl, r0, lo0⟩ := Rd.of_own hown' hn8 RX.out.2.2.1
      have R0 := Lib.hid r0
      clear hown' hgrow r0
      go_wp2_with fail
      go_meet
      exact ⟨A0, c0, rfl, bk bc k_r, bk bc k_q, R0, bst bc bw⟩
  case rest =>
    clear bw k_r k_q
    obtain ⟨A0, c0, rfl, k_r, k_q, R0, BW⟩ := hcut
    have bw := BW.out
    have r0 := R0.out
    clear BW R0
    have q_r := q4c k_r
    have q_q := q4c k_q
    go_wp2_with fail
    refine (grayWrite_any a b c d N h3 h4 h5 h6 HN.out n c0 A0 (zs) x y z _ r0).mono ?_
    rintro e Y4 ⟨A1, cp1, rfl, r1, lo1, bc⟩
    clear q_r q_q
    replace k_r := bk bc k_r
    replace k_q := bk bc k_q
    replace bw := bst bc bw
    (try replace r0 := (r0.below bc).more bc.size)
    (try replace r1 := (r1.below bc).more bc.size)
    (try replace raf := (raf.below bc).more bc.size)
    (try replace rbf := (rbf.below bc).more bc.size)
    clear bc
    have q_r := q4c k_r
    have q_q := q4c k_q
    go_upto_region 6 with fail
    clear q_r q_q
    obtain ⟨Y5, g_p, eY, eg⟩ : ∃ Y g, Y = Y4.alloc (.cells #[.int .i64 a, .int .i64 b, .int .i64 c, .int .i64 d, .int .i64 (c - a), .slice A1 N cp1] 29) ∧ g = Y4.heap.size := ⟨_, _, rfl, rfl⟩
    rw [← eY, ← eg]
    have bc : Below Y4.heap.size Y4 Y5 := by rw [eY]; exact (Below.refl _ _).alloc (Nat.le_refl _) _
    have k_p : Y5.heap[g_p]? = some (.cells #[.int .i64 a, .int .i64 b, .int .i64 c, .int .i64 d, .int .i64 (c - a), .slice A1 N cp1] 29 (0, 0)) := by rw [eY, eg]; exact heap_alloc_new Y4 _
    replace k_r := bk bc k_r
    replace k_q := bk bc k_q
    replace bw := bst bc bw
    (try replace r0 := (r0.below bc).more bc.size)
    (try replace r1 := (r1.below bc).more bc.size)
    (try replace raf := (raf.below bc).more bc.size)
    (try replace rbf := (rbf.below bc).more bc.size)
    clear bc eY eg
    have q_r := q4c k_r
    have q_q := q4c k_q
    have q_p := q6c k_p
    go_wp2_with fail
    refine ((grayRun_any a b c d N h3 h4 h5 h6 HN.out n c0 A0 zs 1 1 (some ⟨_, 0, none⟩) [⟨1, x, y, ⟨z, 0, 0, 0⟩, ⟨0, 0, 0, 0⟩⟩] _ (by have b1 : Below Y5.heap.size Y5 (Y5.alloc (.cells #[.int .i64 1, .int .i64 x, .int .i64 y, .int .i64 z, .int .i64 0, .int .i64 0, .int .i64 0, .int .i64 0, .int .i64 0, .int .i64 0, .int .i64 0] 62)) := bsa (Below.refl _ _); exact (r0.below b1).more b1.size) (RdSteps.of_block (ss := [⟨1, x, y, ⟨z, 0, 0, 0⟩, ⟨0, 0, 0, 0⟩⟩]) (m := 1) (heap_alloc_new _ _) rfl rfl (by decide) OK1.out)).mono (fun _ _ h => h.lite (k := 0) (cs := []) (bs := wrAt (byt N zs) a b c d x y (z % 256)) E1.out.1 E1.out.2 rfl)).mono ?_
    rintro e Y6 ⟨A1f, c1f, A2f, n2f, c2f, A3f, c3f, rfl, raf, rbf, laf, lbf, bc⟩
    clear q_r q_q q_p
    replace bc := bst bc (bsa (Below.refl _ _))
    replace k_r := bk bc k_r
    replace k_q := bk bc k_q
    replace k_p := bk bc k_p
    replace bw := bst bc bw
    (try replace r0 := (r0.below bc).more bc.size)
    (try replace r1 := (r1.below bc).more bc.size)
    (try replace raf := (raf.below bc).more bc.size)
    (try replace rbf := (rbf.below bc).more bc.size)
    clear bc
    have q_r := q4c k_r
    have q_q := q4c k_q
    have q_p := q6c k_p
    go_upto_region 7 with fail
    clear q_r q_q q_p
    obtain ⟨Y7, g_o, eY, eg⟩ : ∃ Y g, Y = Y6.alloc (.cells #[.int .i64 a, .int .i64 b, .int .i64 c, .int .i64 d, .int .i64 (c - a), .slice A3f N c3f] 29) ∧ g = Y6.heap.size := ⟨_, _, rfl, rfl⟩
    rw [← eY, ← eg]
    have bc : Below Y6.heap.size Y6 Y7 := by rw [eY]; exact (Below.refl _ _).alloc (Nat.le_refl _) _
    have k_o : Y7.heap[g_o]? = some (.cells #[.int .i64 a, .int .i64 b, .int .i64 c, .int .i64 d, .int .i64 (c - a), .slice A3f N c3f] 29 (0, 0)) := by rw [eY, eg]; exact heap_alloc_new Y6 _
    replace k_r := bk bc k_r
    replace k_q := bk bc k_q
    replace k_p := bk bc k_p
    replace bw := bst bc bw
    (try replace r0 := (r0.below bc).more bc.size)
    (try replace r1 := (r1.below bc).more bc.size)
    (try replace raf := (raf.below bc).more bc.size)
    (try replace rbf := (rbf.below bc).more bc.size)
    clear bc eY eg
    have q_r := q4c k_r
    have q_q := q4c k_q
    have q_p := q6c k_p
    have q_o := q6c k_o
    go_wp2_with fail
    refine (same_b _ _ _ _ _ zs _ r0 ((HR.out.below bw).more bw.size)).mono ?_
    rintro e Y8 ⟨rfl, bc⟩
    clear q_r q_q q_p q_o
    replace k_r := bk bc k_r
    replace k_q := bk bc k_q
    replace k_p := bk bc k_p
    replace k_o := bk bc k_o
    replace bw := bst bc bw
    (try replace r0 := (r0.below bc).more bc.size)
    (try replace r1 := (r1.below bc).more bc.size)
    (try replace raf := (raf.below bc).more bc.size)
    (try replace rbf := (rbf.below bc).more bc.size)
    clear bc
    have q_r := q4c k_r
    have q_q := q4c k_q
    have q_p := q6c k_p
    have q_o := q6c k_o
    go_wp2_with fail
    refine (samePic_true _ _ _ _ _ _ _ _ _ _ _ _ r1 rbf).mono ?_
    rintro e Y9 ⟨rfl, bc⟩
    clear q_r q_q q_p q_o
    replace k_r := bk bc k_r
    replace k_q := bk bc k_q
    replace k_p := bk bc k_p
    replace k_o := bk bc k_o
    replace bw := bst bc bw
    (try replace r0 := (r0.below bc).more bc.size)
    (try replace r1 := (r1.below bc).more bc.size)
    (try replace raf := (raf.below bc).more bc.size)
    (try replace rbf := (rbf.below bc).more bc.size)
    clear bc
    go_wp2
    go_ret
    first | exact ⟨rfl, bw⟩ | exact ⟨trivial, bw⟩

end Go.Proofs.Ytpijljokcoocpaa

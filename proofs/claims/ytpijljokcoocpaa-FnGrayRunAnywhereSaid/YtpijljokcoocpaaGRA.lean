/-
  The walk of the law FnGrayRunAnywhere. No condition.
-/
import Derived.Test.YtpijljokcoocpaaGH
import Derived.Test.YtpijljokcoocpaaR6
import Derived.Test.YtpijljokcoocpaaAC
import Derived.Test.YtpijljokcoocpaaSR5
namespace Go.Proofs.Ytpijljokcoocpaa
open Go.ChangeShapes Go.WideShapes Go.ChangeAt Go.RowKit
set_option linter.unusedVariables false
set_option linter.unusedSimpArgs false

theorem same_b (A1 A2 : Option Addr) (n c1 c2 : Nat) (zs : List Int) (w : World) (h1 : Rd w w.heap.size A1 n zs) (h2 : Rd w w.heap.size A2 n zs) :
    Calls Try.prog 46 #[.slice A1 n c1, .slice A2 n c2] w fun e w' => e = .returned (.bool true) ∧ Below w.heap.size w w' :=
  (same_true A1 A2 n c1 c2 _ _ zs w h1 h2).mono fun _ _ ⟨h, k, hk⟩ => ⟨h, by rw [hk]; exact below_drewN (Below.refl _ _) k⟩

set_option maxRecDepth 100000 in
set_option maxHeartbeats 3000000 in
theorem fnGrayRunAnywhere_walk (w : World) (q : Q4) (hq : q.ok) (Z : Option Addr) (n cp : Nat) (zs : List Int) (hr : Rd w w.heap.size Z n zs) (S : Option Addr) (m cs : Nat) (ss : List Stp) (hs : RdActs w w.heap.size S m ss) :
    Calls Try.prog 17 #[q.val, .slice Z n cp, .slice S m cs] w fun e w' => e = .returned (.bool true) ∧ Below w.heap.size w w' := by
  obtain ⟨a, b, c, d⟩ := q
  obtain ⟨ha, hb, hc, hd⟩ := hq
  show Calls Try.prog 17 #[.agg #[.int .i64 a, .int .i64 b, .int .i64 c, .int .i64 d], .slice Z n cp, .slice S m cs] w _
  have hrs := rect_same a b c d
  have hrd := rect_diff a b c d
  have hp0 := fun st v => pfld0 a b c d st v
  have hp2 := fun st A n cp => pfld2 a b c d st A n cp
  have HR := Lib.hid hr
  clear hr
  have HS := Lib.hid hs.1
  have hm88 := hs.2
  clear hs
  by_cases hf : Fine a b c d
  case neg =>
    have HF := Lib.hid hf
    clear hf
    go_enter Try.func17, Try.ntmps17
    go_upto_region 1 with fail
    obtain ⟨W, hW⟩ : ∃ W, W = w.alloc (.cells #[.int .i64 a, .int .i64 b, .int .i64 c, .int .i64 d] 23) := ⟨_, rfl⟩
    have bw : Below w.heap.size w W := by rw [hW]; exact bsa (Below.refl _ _)
    have k_r : W.heap[w.heap.size]? = some (.cells #[.int .i64 a, .int .i64 b, .int .i64 c, .int .i64 d] 23 (0, 0)) := by rw [hW]; exact heap_alloc_new w _
    rw [← hW]
    clear hW
    have q_r := q4c k_r
    go_wp2_with fail
    refine (fine_no a b c d ha hb hc hd HF.out _).mono ?_
    rintro e Y1 ⟨rfl, bc⟩
    clear q_r
    replace k_r := bk bc k_r
    replace bw := bst bc bw
    clear bc
    go_wp2
    go_ret
    first | exact ⟨rfl, bw⟩ | exact ⟨trivial, bw⟩
  obtain ⟨h3, h4, h5, h6, N, hN⟩ := fine_area hf
  have HF := Lib.hid hf
  have HN := Lib.hid hN
  clear hf hN
  obtain ⟨gg, hgg⟩ : ∃ g, g = (grun ⟨a, b, c, d⟩ (gini ⟨a, b, c, d⟩ (byt N zs)) ss) := ⟨_, rfl⟩
  have HGT := Lib.hid hgg.symm
  clear hgg
  go_enter Try.func17, Try.ntmps17
  go_upto_region 1 with fail
  obtain ⟨W, hW⟩ : ∃ W, W = w.alloc (.cells #[.int .i64 a, .int .i64 b, .int .i64 c, .int .i64 d] 23) := ⟨_, rfl⟩
  have bw : Below w.heap.size w W := by rw [hW]; exact bsa (Below.refl _ _)
  have k_r : W.heap[w.heap.size]? = some (.cells #[.int .i64 a, .int .i64 b, .int .i64 c, .int .i64 d] 23 (0, 0)) := by rw [hW]; exact heap_alloc_new w _
  rw [← hW]
  clear hW
  have q_r := q4c k_r
  go_wp2_with fail
  refine (fine_yes a b c d HF.out _).mono ?_
  rintro e Y1 ⟨rfl, bc⟩
  clear q_r
  replace k_r := bk bc k_r
  replace bw := bst bc bw
  clear bc
  have q_r := q4c k_r
  go_wp2_with fail
  refine (toRect4 a b c d _).mono ?_
  rintro e Y2 ⟨rfl, bc⟩
  clear q_r
  replace k_r := bk bc k_r
  replace bw := bst bc bw
  (try replace r0 := (r0.below bc).more bc.size)
  clear bc
  have q_r := q4c k_r
  go_wp2_with fail
  refine (toSteps_any m cs S ss _ ((HS.out.below bw).more bw.size)).mono ?_
  rintro e Y3 ⟨A0, c0, rfl, r0, lo0, bc⟩
  clear q_r
  replace k_r := bk bc k_r
  replace bw := bst bc bw
  (try replace r0 := (r0.below bc).more bc.size)
  clear lo0
  clear bc
  have q_r := q4c k_r
  go_upto_region 4 with fail
  clear q_r
  obtain ⟨Y4, g_q, eY, eg⟩ : ∃ Y g, Y = Y3.alloc (.cells #[.int .i64 a, .int .i64 b, .int .i64 c, .int .i64 d] 26) ∧ g = Y3.heap.size := ⟨_, _, rfl, rfl⟩
  rw [← eY, ← eg]
  have bc : Below Y3.heap.size Y3 Y4 := by rw [eY]; exact (Below.refl _ _).alloc (Nat.le_refl _) _
  have k_q : Y4.heap[g_q]? = some (.cells #[.int .i64 a, .int .i64 b, .int .i64 c, .int .i64 d] 26 (0, 0)) := by rw [eY, eg]; exact heap_alloc_new Y3 _
  replace k_r := bk bc k_r
  replace bw := bst bc bw
  (try replace r0 := (r0.below bc).more bc.size)
  clear bc eY eg
  have q_r := q4c k_r
  have q_q := q4c k_q
  go_wp2_with fail
  refine ((grayRun_any a b c d N h3 h4 h5 h6 HN.out n cp Z zs m c0 A0 ss _ ((HR.out.below bw).more bw.size) r0).mono (fun e w' h => (HGT.out ▸ h : RunOut a b c d N gg _ e w'))).mono ?_
  rintro e Y5 ⟨A11, c11, A21, c21, A31, c31, os1, rfl, ra1, ro1, oe1, oi1, rb1, _, _, _, bc⟩
  clear q_r q_q
  replace k_r := bk bc k_r
  replace k_q := bk bc k_q
  replace bw := bst bc bw
  (try replace r0 := (r0.below bc).more bc.size)
  (try replace ra1 := (ra1.below bc).more bc.size)
  (try replace ro1 := (ro1.below bc).more bc.size)
  (try replace rb1 := (rb1.below bc).more bc.size)
  (try replace ra2 := (ra2.below bc).more bc.size)
  (try replace ro2 := (ro2.below bc).more bc.size)
  (try replace rb2 := (rb2.below bc).more bc.size)
  clear bc
  have q_r := q4c k_r
  have q_q := q4c k_q
  go_upto_region 5 with fail
  clear q_r q_q
  obtain ⟨Y6, g_p, eY, eg⟩ : ∃ Y g, Y = Y5.alloc (.cells #[.int .i64 a, .int .i64 b, .int .i64 c, .int .i64 d, .int .i64 (c - a), .slice A31 N c31] 29) ∧ g = Y5.heap.size := ⟨_, _, rfl, rfl⟩
  rw [← eY, ← eg]
  have bc : Below Y5.heap.size Y5 Y6 := by rw [eY]; exact (Below.refl _ _).alloc (Nat.le_refl _) _
  have k_p : Y6.heap[g_p]? = some (.cells #[.int .i64 a, .int .i64 b, .int .i64 c, .int .i64 d, .int .i64 (c - a), .slice A31 N c31] 29 (0, 0)) := by rw [eY, eg]; exact heap_alloc_new Y5 _
  replace k_r := bk bc k_r
  replace k_q := bk bc k_q
  replace bw := bst bc bw
  (try replace r0 := (r0.below bc).more bc.size)
  (try replace ra1 := (ra1.below bc).more bc.size)
  (try replace ro1 := (ro1.below bc).more bc.size)
  (try replace rb1 := (rb1.below bc).more bc.size)
  (try replace ra2 := (ra2.below bc).more bc.size)
  (try replace ro2 := (ro2.below bc).more bc.size)
  (try replace rb2 := (rb2.below bc).more bc.size)
  clear bc eY eg
  have q_r := q4c k_r
  have q_q := q4c k_q
  have q_p := q6c k_p
  go_wp2_with fail
  refine ((sgrayRun_any a b c d N h3 h4 h5 h6 HN.out n cp Z zs m c0 A0 ss _ ((HR.out.below bw).more bw.size) r0).mono (fun e w' h => (HGT.out ▸ h : RunOut a b c d N gg _ e w'))).mono ?_
  rintro e Y7 ⟨A12, c12, A22, c22, A32, c32, os2, rfl, ra2, ro2, oe2, oi2, rb2, _, _, _, bc⟩
  clear q_r q_q q_p
  replace k_r := bk bc k_r
  replace k_q := bk bc k_q
  replace k_p := bk bc k_p
  replace bw := bst bc bw
  (try replace r0 := (r0.below bc).more bc.size)
  (try replace ra1 := (ra1.below bc).more bc.size)
  (try replace ro1 := (ro1.below bc).more bc.size)
  (try replace rb1 := (rb1.below bc).more bc.size)
  (try replace ra2 := (ra2.below bc).more bc.size)
  (try replace ro2 := (ro2.below bc).more bc.size)
  (try replace rb2 := (rb2.below bc).more bc.size)
  clear bc
  have q_r := q4c k_r
  have q_q := q4c k_q
  have q_p := q6c k_p
  go_upto_region 6 with fail
  clear q_r q_q q_p
  obtain ⟨Y8, g_o, eY, eg⟩ : ∃ Y g, Y = Y7.alloc (.cells #[.int .i64 a, .int .i64 b, .int .i64 c, .int .i64 d, .int .i64 (c - a), .slice A32 N c32] 29) ∧ g = Y7.heap.size := ⟨_, _, rfl, rfl⟩
  rw [← eY, ← eg]
  have bc : Below Y7.heap.size Y7 Y8 := by rw [eY]; exact (Below.refl _ _).alloc (Nat.le_refl _) _
  have k_o : Y8.heap[g_o]? = some (.cells #[.int .i64 a, .int .i64 b, .int .i64 c, .int .i64 d, .int .i64 (c - a), .slice A32 N c32] 29 (0, 0)) := by rw [eY, eg]; exact heap_alloc_new Y7 _
  replace k_r := bk bc k_r
  replace k_q := bk bc k_q
  replace k_p := bk bc k_p
  replace bw := bst bc bw
  (try replace r0 := (r0.below bc).more bc.size)
  (try replace ra1 := (ra1.below bc).more bc.size)
  (try replace ro1 := (ro1.below bc).more bc.size)
  (try replace rb1 := (rb1.below bc).more bc.size)
  (try replace ra2 := (ra2.below bc).more bc.size)
  (try replace ro2 := (ro2.below bc).more bc.size)
  (try replace rb2 := (rb2.below bc).more bc.size)
  clear bc eY eg
  clear oi1 oi2
  have q_r := q4c k_r
  have q_q := q4c k_q
  have q_p := q6c k_p
  have q_o := q6c k_o
  go_wp2_with fail
  refine (same_b _ _ _ _ _ gg.cs _ ra1 ra2).mono ?_
  rintro e Y9 ⟨rfl, bc⟩
  clear q_r q_q q_p q_o
  replace k_r := bk bc k_r
  replace k_q := bk bc k_q
  replace k_p := bk bc k_p
  replace k_o := bk bc k_o
  replace bw := bst bc bw
  (try replace r0 := (r0.below bc).more bc.size)
  (try replace ra1 := (ra1.below bc).more bc.size)
  (try replace ro1 := (ro1.below bc).more bc.size)
  (try replace rb1 := (rb1.below bc).more bc.size)
  (try replace ra2 := (ra2.below bc).more bc.size)
  (try replace ro2 := (ro2.below bc).more bc.size)
  (try replace rb2 := (rb2.below bc).more bc.size)
  clear bc
  have q_r := q4c k_r
  have q_q := q4c k_q
  have q_p := q6c k_p
  have q_o := q6c k_o
  go_wp2_with fail
  refine (samePic_true _ _ _ _ _ _ _ _ _ _ _ _ rb1 rb2).mono ?_
  rintro e Y10 ⟨rfl, bc⟩
  clear q_r q_q q_p q_o
  replace k_r := bk bc k_r
  replace k_q := bk bc k_q
  replace k_p := bk bc k_p
  replace k_o := bk bc k_o
  replace bw := bst bc bw
  (try replace r0 := (r0.below bc).more bc.size)
  (try replace ra1 := (ra1.below bc).more bc.size)
  (try replace ro1 := (ro1.below bc).more bc.size)
  (try replace rb1 := (rb1.below bc).more bc.size)
  (try replace ra2 := (ra2.below bc).more bc.size)
  (try replace ro2 := (ro2.below bc).more bc.size)
  (try replace rb2 := (rb2.below bc).more bc.size)
  clear bc
  go_wp2
  go_ret
  first | exact ⟨rfl, bw⟩ | exact ⟨trivial, bw⟩

end Go.Proofs.Ytpijljokcoocpaa

/-
  The walk of the law FnGraySplit. No condition.
-/
import Derived.Test.YtpijljokcoocpaaGH
import Derived.Test.YtpijljokcoocpaaR6
import Derived.Test.YtpijljokcoocpaaTS
namespace Go.Proofs.Ytpijljokcoocpaa
open Go.ChangeShapes Go.WideShapes Go.ChangeAt Go.RowKit
set_option linter.unusedVariables false
set_option linter.unusedSimpArgs false

theorem same_b (A1 A2 : Option Addr) (n c1 c2 : Nat) (zs : List Int) (w : World) (h1 : Rd w w.heap.size A1 n zs) (h2 : Rd w w.heap.size A2 n zs) :
    Calls Try.prog 46 #[.slice A1 n c1, .slice A2 n c2] w fun e w' => e = .returned (.bool true) ∧ Below w.heap.size w w' :=
  (same_true A1 A2 n c1 c2 _ _ zs w h1 h2).mono fun _ _ ⟨h, k, hk⟩ => ⟨h, by rw [hk]; exact below_drewN (Below.refl _ _) k⟩

set_option maxRecDepth 100000 in
set_option maxHeartbeats 2000000 in
theorem fnGraySplit_walk (w : World) (q : Q4) (hq : q.ok) (Z : Option Addr) (n cp : Nat) (zs : List Int) (hr : Rd w w.heap.size Z n zs) (S : Option Addr) (m cs : Nat) (ss : List Stp) (hs : RdActs w w.heap.size S m ss) (kk : Int) (hkk : I64 kk) :
    Calls Try.prog 18 #[q.val, .slice Z n cp, .slice S m cs, .int .i64 kk] w fun e w' => e = .returned (.bool true) ∧ Below w.heap.size w w' := by
  obtain ⟨a, b, c, d⟩ := q
  obtain ⟨ha, hb, hc, hd⟩ := hq
  show Calls Try.prog 18 #[.agg #[.int .i64 a, .int .i64 b, .int .i64 c, .int .i64 d], .slice Z n cp, .slice S m cs, .int .i64 kk] w _
  have hrs := rect_same a b c d
  have hrd := rect_diff a b c d
  have hp0 := fun st v => pfld0 a b c d st v
  have hp2 := fun st A n cp => pfld2 a b c d st A n cp
  have HR := Lib.hid hr
  clear hr
  have HS := Lib.hid hs.1
  have hm88 := hs.2
  clear hs
  by_cases hf : Fine a b c d
  case neg =>
    have HF := Lib.hid hf
    clear hf
    go_enter Try.func18, Try.ntmps18
    go_upto_region 1 with fail
    obtain ⟨W, hW⟩ : ∃ W, W = w.alloc (.cells #[.int .i64 a, .int .i64 b, .int .i64 c, .int .i64 d] 23) := ⟨_, rfl⟩
    have bw : Below w.heap.size w W := by rw [hW]; exact bsa (Below.refl _ _)
    have k_r : W.heap[w.heap.size]? = some (.cells #[.int .i64 a, .int .i64 b, .int .i64 c, .int .i64 d] 23 (0, 0)) := by rw [hW]; exact heap_alloc_new w _
    rw [← hW]
    clear hW
    have q_r := q4c k_r
    go_wp2_with fail
    refine (fine_no a b c d ha hb hc hd HF.out _).mono ?_
    rintro e Y1 ⟨rfl, bc⟩
    clear q_r
    replace k_r := bk bc k_r
    replace bw := bst bc bw
    clear bc
    go_wp2
    go_ret
    first | exact ⟨rfl, bw⟩ | exact ⟨trivial, bw⟩
  obtain ⟨h3, h4, h5, h6, N, hN⟩ := fine_area hf
  have HF := Lib.hid hf
  have HN := Lib.hid hN
  clear hf hN
  by_cases hk0 : kk < 0
  case pos =>
    go_enter Try.func18, Try.ntmps18
    go_upto_region 1 with fail
    obtain ⟨W, hW⟩ : ∃ W, W = w.alloc (.cells #[.int .i64 a, .int .i64 b, .int .i64 c, .int .i64 d] 23) := ⟨_, rfl⟩
    have bw : Below w.heap.size w W := by rw [hW]; exact bsa (Below.refl _ _)
    have k_r : W.heap[w.heap.size]? = some (.cells #[.int .i64 a, .int .i64 b, .int .i64 c, .int .i64 d] 23 (0, 0)) := by rw [hW]; exact heap_alloc_new w _
    rw [← hW]
    clear hW
    have q_r := q4c k_r
    go_wp2_with fail
    refine (fine_yes a b c d HF.out _).mono ?_
    rintro e Y1 ⟨rfl, bc⟩
    clear q_r
    replace k_r := bk bc k_r
    replace bw := bst bc bw
    clear bc
    go_wp2
    go_ret
    first | exact ⟨rfl, bw⟩ | exact ⟨trivial, bw⟩
  by_cases hk1 : (m : Int) < kk
  case pos =>
    go_enter Try.func18, Try.ntmps18
    go_upto_region 1 with fail
    obtain ⟨W, hW⟩ : ∃ W, W = w.alloc (.cells #[.int .i64 a, .int .i64 b, .int .i64 c, .int .i64 d] 23) := ⟨_, rfl⟩
    have bw : Below w.heap.size w W := by rw [hW]; exact bsa (Below.refl _ _)
    have k_r : W.heap[w.heap.size]? = some (.cells #[.int .i64 a, .int .i64 b, .int .i64 c, .int .i64 d] 23 (0, 0)) := by rw [hW]; exact heap_alloc_new w _
    rw [← hW]
    clear hW
    have q_r := q4c k_r
    go_wp2_with fail
    refine (fine_yes a b c d HF.out _).mono ?_
    rintro e Y1 ⟨rfl, bc⟩
    clear q_r
    replace k_r := bk bc k_r
    replace bw := bst bc bw
    clear bc
    go_wp2
    go_ret
    first | exact ⟨rfl, bw⟩ | exact ⟨trivial, bw⟩
  obtain ⟨kn, rfl⟩ : ∃ kn : Nat, kk = (kn : Int) := ⟨kk.toNat, by omega⟩
  have hkm : kn ≤ m := by omega
  have hkm' : ¬ m < kn := by omega
  clear hk0 hk1
  obtain ⟨l1, b1, E1⟩ : ∃ (l : List Int) (b' : List Int), (grun ⟨a, b, c, d⟩ (gini ⟨a, b, c, d⟩ (byt N zs)) (ss.take kn)).cs = l ∧ (grun ⟨a, b, c, d⟩ (gini ⟨a, b, c, d⟩ (byt N zs)) (ss.take kn)).bs = b' := ⟨_, _, rfl, rfl⟩
  obtain ⟨l2, b2, E2⟩ : ∃ (l : List Int) (b' : List Int), (grun ⟨a, b, c, d⟩ (gini ⟨a, b, c, d⟩ (byt N b1)) (ss.drop kn)).cs = l ∧ (grun ⟨a, b, c, d⟩ (gini ⟨a, b, c, d⟩ (byt N b1)) (ss.drop kn)).bs = b' := ⟨_, _, rfl, rfl⟩
  obtain ⟨k1, K1⟩ : ∃ k, l1.length = k := ⟨_, rfl⟩
  obtain ⟨k2, K2⟩ : ∃ k, l2.length = k := ⟨_, rfl⟩
  have HEJ := Lib.hid (show (grun ⟨a, b, c, d⟩ (gini ⟨a, b, c, d⟩ (byt N zs)) (ss.take kn ++ whl :: ss.drop kn)).cs = l1 ++ l2 ∧ (grun ⟨a, b, c, d⟩ (gini ⟨a, b, c, d⟩ (byt N zs)) (ss.take kn ++ whl :: ss.drop kn)).bs = b2 by
    have := split_law ⟨a, b, c, d⟩ N zs (ss.take kn) (ss.drop kn)
    rw [E1.1, E1.2, E2.1, E2.2] at this
    exact this)
  have HKJ := Lib.hid (show (l1 ++ l2).length = k1 + k2 by rw [List.length_append, K1, K2])
  have HE1 := Lib.hid E1
  have HE2 := Lib.hid E2
  have HK1 := Lib.hid K1
  have HK2 := Lib.hid K2
  have JOK := Lib.hid (show ∀ s ∈ ss.take kn ++ whl :: ss.drop kn, s.ok by
    intro s hs
    rcases List.mem_append.1 hs with h | h
    · exact HS.out.2.2.1 s (List.mem_of_mem_take h)
    · rcases List.mem_cons.1 h with rfl | h
      · exact whl_ok
      · exact HS.out.2.2.1 s (List.mem_of_mem_drop h))
  clear E1 E2 K1 K2
  go_enter Try.func18, Try.ntmps18
  go_upto_region 1 with fail
  obtain ⟨W, hW⟩ : ∃ W, W = w.alloc (.cells #[.int .i64 a, .int .i64 b, .int .i64 c, .int .i64 d] 23) := ⟨_, rfl⟩
  have bw : Below w.heap.size w W := by rw [hW]; exact bsa (Below.refl _ _)
  have k_r : W.heap[w.heap.size]? = some (.cells #[.int .i64 a, .int .i64 b, .int .i64 c, .int .i64 d] 23 (0, 0)) := by rw [hW]; exact heap_alloc_new w _
  rw [← hW]
  clear hW
  have q_r := q4c k_r
  go_wp2_with fail
  refine (fine_yes a b c d HF.out _).mono ?_
  rintro e Y1 ⟨rfl, bc⟩
  clear q_r
  replace k_r := bk bc k_r
  replace bw := bst bc bw
  clear bc
  have q_r := q4c k_r
  go_wp2_with fail
  refine (toRect4 a b c d _).mono ?_
  rintro e Y2 ⟨rfl, bc⟩
  clear q_r
  replace k_r := bk bc k_r
  replace bw := bst bc bw
  (try replace r0 := (r0.below bc).more bc.size)
  clear bc
  have q_r := q4c k_r
  go_wp2_with fail
  refine (toSteps_cap m cs S ss _ ((HS.out.below bw).more bw.size)).mono ?_
  rintro e Y3 ⟨A0, c0, rfl, r0, lo0, bc, hc0⟩
  clear q_r
  replace k_r := bk bc k_r
  replace bw := bst bc bw
  (try replace r0 := (r0.below bc).more bc.size)
  clear lo0
  clear bc
  have q_r := q4c k_r
  go_upto_region 4 with fail
  clear q_r
  obtain ⟨Y4, g_q, eY, eg⟩ : ∃ Y g, Y = Y3.alloc (.cells #[.int .i64 a, .int .i64 b, .int .i64 c, .int .i64 d] 26) ∧ g = Y3.heap.size := ⟨_, _, rfl, rfl⟩
  rw [← eY, ← eg]
  have bc : Below Y3.heap.size Y3 Y4 := by rw [eY]; exact (Below.refl _ _).alloc (Nat.le_refl _) _
  have k_q : Y4.heap[g_q]? = some (.cells #[.int .i64 a, .int .i64 b, .int .i64 c, .int .i64 d] 26 (0, 0)) := by rw [eY, eg]; exact heap_alloc_new Y3 _
  replace k_r := bk bc k_r
  replace bw := bst bc bw
  (try replace r0 := (r0.below bc).more bc.size)
  clear bc eY eg
  have q_r := q4c k_r
  have q_q := q4c k_q
  go_upto_region 5 with fail
  clear q_r q_q
  obtain ⟨Y5, g_whole, eY, eg⟩ : ∃ Y g, Y = Y4.alloc (.cells #[.int .i64 5, .int .i64 0, .int .i64 0, .int .i64 0, .int .i64 0, .int .i64 0, .int .i64 0, .int .i64 0, .int .i64 0, .int .i64 0, .int .i64 0] 62) ∧ g = Y4.heap.size := ⟨_, _, rfl, rfl⟩
  rw [← eY, ← eg]
  have bc : Below Y4.heap.size Y4 Y5 := by rw [eY]; exact (Below.refl _ _).alloc (Nat.le_refl _) _
  have k_whole : Y5.heap[g_whole]? = some (.cells #[.int .i64 5, .int .i64 0, .int .i64 0, .int .i64 0, .int .i64 0, .int .i64 0, .int .i64 0, .int .i64 0, .int .i64 0, .int .i64 0, .int .i64 0] 62 (0, 0)) := by rw [eY, eg]; exact heap_alloc_new Y4 _
  replace k_r := bk bc k_r
  replace k_q := bk bc k_q
  replace bw := bst bc bw
  (try replace r0 := (r0.below bc).more bc.size)
  clear bc eY eg
  have lw := lt_of_block k_whole
  have bw0 := bw
  clear bw
  have bw : Below Y5.heap.size Y5 Y5 := Below.refl _ _
  obtain ⟨i0, hi, hz0, hz1, hz2⟩ := info_parts (show (Try.prog.info? 62).map (fun i => (i.zero, i.size, i.bytes)) = some (some (.agg #[.int .i64 0, .int .i64 0, .int .i64 0, .int .i64 0, .int .i64 0, .int .i64 0, .int .i64 0, .int .i64 0, .int .i64 0, .int .i64 0, .int .i64 0]), 11, 88) from by kernel_rfl)
  have hhi := fun W => sl_hi A0 m c0 kn (by omega) W
  obtain ⟨A2, hlo, hA2⟩ : ∃ A2, (∀ W, (Instr.slice 52 (.slice A0 m c0) (some (.int .i64 (kn : Int))) none none).run Try.prog W = .ok (.slice A2 (m - kn) (c0 - kn)) W) ∧ (kn < m → A2 = A0.map (·.add (kn * 11))) := ⟨_, fun W => sl_lo A0 m c0 kn hkm W, fun h => if_neg (by omega)⟩
  have rT := r0.take hkm
  have rD := r0.drop hkm hA2
  go_cut [12] (fun s12 wx => ∃ (AJ : Option Addr) (cJ : Nat), s12 = .slice AJ (m + 1) cJ ∧ wx.heap[w.heap.size]? = some (.cells #[.int .i64 a, .int .i64 b, .int .i64 c, .int .i64 d] 23 (0, 0)) ∧ wx.heap[g_q]? = some (.cells #[.int .i64 a, .int .i64 b, .int .i64 c, .int .i64 d] 26 (0, 0)) ∧ Hid (RdSteps wx wx.heap.size AJ (m + 1) (ss.take kn ++ whl :: ss.drop kn)) ∧ Hid (RdSteps wx wx.heap.size A0 m ss) ∧ Hid (Below w.heap.size w wx))
  case first =>
    refine wp_region_held_drew (S := fun w' => w'.cell? ⟨g_whole, 0, none⟩ = some (.int .i64 5) ∧ w'.cell? ⟨g_whole, 1, none⟩ = some (.int .i64 0) ∧ w'.cell? ⟨g_whole, 2, none⟩ = some (.int .i64 0) ∧ w'.cell? ⟨g_whole, 3, none⟩ = some (.int .i64 0) ∧ w'.cell? ⟨g_whole, 4, none⟩ = some (.int .i64 0) ∧ w'.cell? ⟨g_whole, 5, none⟩ = some (.int .i64 0) ∧ w'.cell? ⟨g_whole, 6, none⟩ = some (.int .i64 0) ∧ w'.cell? ⟨g_whole, 7, none⟩ = some (.int .i64 0) ∧ w'.cell? ⟨g_whole, 8, none⟩ = some (.int .i64 0) ∧ w'.cell? ⟨g_whole, 9, none⟩ = some (.int .i64 0) ∧ w'.cell? ⟨g_whole, 10, none⟩ = some (.int .i64 0)) (by kernel_rfl) ⟨(q11c k_whole).1.1, (q11c k_whole).1.2.1, (q11c k_whole).1.2.2.1, (q11c k_whole).1.2.2.2.1, (q11c k_whole).1.2.2.2.2.1, (q11c k_whole).1.2.2.2.2.2.1, (q11c k_whole).1.2.2.2.2.2.2.1, (q11c k_whole).1.2.2.2.2.2.2.2.1, (q11c k_whole).1.2.2.2.2.2.2.2.2.1, (q11c k_whole).1.2.2.2.2.2.2.2.2.2.1, (q11c k_whole).1.2.2.2.2.2.2.2.2.2.2⟩ ?_
    intro hHeld
    obtain ⟨X6, eX, bc⟩ : ∃ X, X = Y5.drew ∧ Below Y5.heap.size Y5 X := ⟨_, rfl, (Below.refl _ _).drew⟩
    rw [← eX] at hHeld ⊢
    replace k_whole := bk bc k_whole
    replace bw := bst bc bw
    (try replace hown1 := own_below hown1 bc)
    clear eX bc
    refine takx (i := 0) (D := 40) (v := .slice A0 m c0) rfl rfl (by kernel_rfl) (by kernel_rfl) (by kernel_rfl) (fun _ _ _ h => h) (Or.inl ⟨by rfl, fun W hSw => by (try dsimp only at hSw); go_simp⟩) (by assumption) ?_
    (try simp only [List.setIfInBounds_toArray, List.set_cons_zero, List.set_cons_succ])
    refine takx (i := 1) (D := 41) (v := .int .i64 kn) rfl rfl (by kernel_rfl) (by kernel_rfl) (by kernel_rfl) (fun _ _ _ h => h) (Or.inl ⟨by rfl, fun W hSw => by (try dsimp only at hSw); go_simp⟩) (by assumption) ?_
    (try simp only [List.setIfInBounds_toArray, List.set_cons_zero, List.set_cons_succ])
    refine takx (i := 2) (D := 42) (v := .slice A0 kn c0) rfl rfl (by kernel_rfl) (by kernel_rfl) (by kernel_rfl) (fun _ _ _ h => h) (Or.inl ⟨by rfl, fun W hSw => by (try dsimp only at hSw); go_simp⟩) (by assumption) ?_
    (try simp only [List.setIfInBounds_toArray, List.set_cons_zero, List.set_cons_succ])
    refine takx (i := 4) (D := 44) (v := .agg #[.int .i64 5, .int .i64 0, .int .i64 0, .int .i64 0, .int .i64 0, .int .i64 0, .int .i64 0, .int .i64 0, .int .i64 0, .int .i64 0, .int .i64 0]) rfl rfl (by kernel_rfl) (by kernel_rfl) (by kernel_rfl) (fun _ _ _ h => h) (Or.inl ⟨by rfl, fun W hSw => by (try dsimp only at hSw); go_simp⟩) (by assumption) ?_
    (try simp only [List.setIfInBounds_toArray, List.set_cons_zero, List.set_cons_succ])
    refine takx (i := 7) (D := 47) (v := .slice A0 m c0) rfl rfl (by kernel_rfl) (by kernel_rfl) (by kernel_rfl) (fun _ _ _ h => h) (Or.inl ⟨by rfl, fun W hSw => by (try dsimp only at hSw); go_simp⟩) (by assumption) ?_
    (try simp only [List.setIfInBounds_toArray, List.set_cons_zero, List.set_cons_succ])
    refine takx (i := 8) (D := 48) (v := .int .i64 kn) rfl rfl (by kernel_rfl) (by kernel_rfl) (by kernel_rfl) (fun _ _ _ h => h) (Or.inl ⟨by rfl, fun W hSw => by (try dsimp only at hSw); go_simp⟩) (by assumption) ?_
    (try simp only [List.setIfInBounds_toArray, List.set_cons_zero, List.set_cons_succ])
    refine takx (i := 9) (D := 49) (v := .slice A2 (m - kn) (c0 - kn)) rfl rfl (by kernel_rfl) (by kernel_rfl) (by kernel_rfl) (fun _ _ _ h => h) (Or.inl ⟨by rfl, fun W hSw => by (try dsimp only at hSw); go_simp⟩) (by assumption) ?_
    (try simp only [List.setIfInBounds_toArray, List.set_cons_zero, List.set_cons_succ])
    refine wpAnyH_ready (rs := [3, 5]) (by kernel_rfl) (by simp) ?_
    refine (AllReadyH.cons rfl (fun K hK => ?_) (AllReadyH.cons rfl (fun K hK => ?_) AllReadyH.nil))
    · refine step_app (by rfl) _ _ _ (by rfl) Y5.heap.size 62 i0 (.agg #[.int .i64 0, .int .i64 0, .int .i64 0, .int .i64 0, .int .i64 0, .int .i64 0, .int .i64 0, .int .i64 0, .int .i64 0, .int .i64 0, .int .i64 0]) 11 88 Try.underlying52 hi hz0 hz1 hz2 rfl (by decide) (.slice none 0 0) 0 [] (by rfl) (World.ownsRow_nil _ _ _ _) A0 kn c0 (flat11 (ss.take kn)) (by rfl) (by rw [flat11_length, rT.1]) (rT.below bw).src' (flat11_one _) (by unfold maxLen; omega) (by omega) bw.size ?_
      intro v' X7 hown' hgrow hat
      have nr_whole : some g_whole ≠ (Value.slice none 0 0 : Value).ownBlock := (by intro h; cases h)
      rw [Nat.zero_add, List.nil_append] at hown'
      obtain ⟨V1, c1, rfl⟩ := own_slice hown'
      have hown1 := hown'
      clear hown' hat
      refine hK.out _ _ ⟨(ckg hgrow nr_whole hHeld.1), (ckg hgrow nr_whole hHeld.2.1), (ckg hgrow nr_whole hHeld.2.2.1), (ckg hgrow nr_whole hHeld.2.2.2.1), (ckg hgrow nr_whole hHeld.2.2.2.2.1), (ckg hgrow nr_whole hHeld.2.2.2.2.2.1), (ckg hgrow nr_whole hHeld.2.2.2.2.2.2.1), (ckg hgrow nr_whole hHeld.2.2.2.2.2.2.2.1), (ckg hgrow nr_whole hHeld.2.2.2.2.2.2.2.2.1), (ckg hgrow nr_whole hHeld.2.2.2.2.2.2.2.2.2.1), (ckg hgrow nr_whole hHeld.2.2.2.2.2.2.2.2.2.2)⟩ (fun hHeld => ?_)
      clear hK K
      (try simp only [List.setIfInBounds_toArray, List.set_cons_zero, List.set_cons_succ])
      replace k_whole := bkg hgrow nr_whole k_whole
      replace bw := bw.grown hgrow bw.size (by intro j hj; cases hj)
      clear hgrow
      refine wpAnyH_ready (rs := [5]) (by kernel_rfl) (by simp) ?_
      refine (AllReadyH.cons rfl (fun K hK => ?_) AllReadyH.nil)
      go_simp
      refine hK.out _ _ ⟨cka hHeld.1, cka hHeld.2.1, cka hHeld.2.2.1, cka hHeld.2.2.2.1, cka hHeld.2.2.2.2.1, cka hHeld.2.2.2.2.2.1, cka hHeld.2.2.2.2.2.2.1, cka hHeld.2.2.2.2.2.2.2.1, cka hHeld.2.2.2.2.2.2.2.2.1, cka hHeld.2.2.2.2.2.2.2.2.2.1, cka hHeld.2.2.2.2.2.2.2.2.2.2⟩ (fun hHeld => ?_)
      clear hK K
      (try simp only [List.setIfInBounds_toArray, List.set_cons_zero, List.set_cons_succ])
      obtain ⟨X8, g8, eY, eg⟩ : ∃ Y g, Y = X7.alloc (.cells #[.int .i64 5, .int .i64 0, .int .i64 0, .int .i64 0, .int .i64 0, .int .i64 0, .int .i64 0, .int .i64 0, .int .i64 0, .int .i64 0, .int .i64 0] 62) ∧ g = X7.heap.size := ⟨_, _, rfl, rfl⟩
      rw [← eY, ← eg]
      rw [← eY] at hHeld
      have bc : Below X7.heap.size X7 X8 := by rw [eY]; exact (Below.refl _ _).alloc (Nat.le_refl _) _
      have k_n45 : X8.heap[g8]? = some (.cells #[.int .i64 5, .int .i64 0, .int .i64 0, .int .i64 0, .int .i64 0, .int .i64 0, .int .i64 0, .int .i64 0, .int .i64 0, .int .i64 0, .int .i64 0] 62 (0, 0)) := by rw [eY, eg]; exact heap_alloc_new X7 _
      replace k_whole := bk bc k_whole
      replace bw := bst bc bw
      (try replace hown1 := own_below hown1 bc)
      clear bc eY eg
      refine wpAnyH_ready (rs := [6]) (by kernel_rfl) (by simp) ?_
      refine (AllReadyH.cons rfl (fun K hK => ?_) AllReadyH.nil)
      refine step_app (by rfl) _ _ _ (by rfl) Y5.heap.size 62 i0 (.agg #[.int .i64 0, .int .i64 0, .int .i64 0, .int .i64 0, .int .i64 0, .int .i64 0, .int .i64 0, .int .i64 0, .int .i64 0, .int .i64 0, .int .i64 0]) 11 88 Try.underlying52 hi hz0 hz1 hz2 rfl (by decide) (.slice V1 kn c1) kn (flat11 (ss.take kn)) (by rfl) hown1 (some ⟨g8, 0, none⟩) 1 1 [.int .i64 5, .int .i64 0, .int .i64 0, .int .i64 0, .int .i64 0, .int .i64 0, .int .i64 0, .int .i64 0, .int .i64 0, .int .i64 0, .int .i64 0] (by rfl) (by rfl) (.inr ⟨_, rfl, World.news_of_block k_n45⟩) (by simp [Value.oneCell']) (by unfold maxLen; omega) (by omega) bw.size ?_
      intro v' X9 hown' hgrow hat
      have nr_whole : some g_whole ≠ (Value.slice V1 kn c1 : Value).ownBlock := (fun e => by have := (hown1.lt _ e.symm).1; omega)
      obtain ⟨V2, c2, rfl⟩ := own_slice hown'
      have hown2 := hown'
      clear hown' hat
      refine hK.out _ _ ⟨(ckg hgrow nr_whole hHeld.1), (ckg hgrow nr_whole hHeld.2.1), (ckg hgrow nr_whole hHeld.2.2.1), (ckg hgrow nr_whole hHeld.2.2.2.1), (ckg hgrow nr_whole hHeld.2.2.2.2.1), (ckg hgrow nr_whole hHeld.2.2.2.2.2.1), (ckg hgrow nr_whole hHeld.2.2.2.2.2.2.1), (ckg hgrow nr_whole hHeld.2.2.2.2.2.2.2.1), (ckg hgrow nr_whole hHeld.2.2.2.2.2.2.2.2.1), (ckg hgrow nr_whole hHeld.2.2.2.2.2.2.2.2.2.1), (ckg hgrow nr_whole hHeld.2.2.2.2.2.2.2.2.2.2)⟩ (fun hHeld => ?_)
      clear hK K
      (try simp only [List.setIfInBounds_toArray, List.set_cons_zero, List.set_cons_succ])
      replace k_whole := bkg hgrow nr_whole k_whole
      replace bw := bw.grown hgrow bw.size (by intro j hj; exact (hown1.lt j hj).1)
      clear hgrow hown1
      refine wpAnyH_ready (rs := [10]) (by kernel_rfl) (by simp) ?_
      refine (AllReadyH.cons rfl (fun K hK => ?_) AllReadyH.nil)
      refine step_app (by rfl) _ _ _ (by rfl) Y5.heap.size 62 i0 (.agg #[.int .i64 0, .int .i64 0, .int .i64 0, .int .i64 0, .int .i64 0, .int .i64 0, .int .i64 0, .int .i64 0, .int .i64 0, .int .i64 0, .int .i64 0]) 11 88 Try.underlying52 hi hz0 hz1 hz2 rfl (by decide) (.slice V2 (kn + 1) c2) (kn + 1) ((flat11 (ss.take kn)) ++ [.int .i64 5, .int .i64 0, .int .i64 0, .int .i64 0, .int .i64 0, .int .i64 0, .int .i64 0, .int .i64 0, .int .i64 0, .int .i64 0, .int .i64 0]) (by rfl) hown2 A2 (m - kn) (c0 - kn) (flat11 (ss.drop kn)) (by rfl) (by rw [flat11_length, rD.1]) (rD.below bw).src' (flat11_one _) (by unfold maxLen; omega) (by omega) bw.size ?_
      intro v' X10 hown' hgrow hat
      have nr_whole : some g_whole ≠ (Value.slice V2 (kn + 1) c2 : Value).ownBlock := (fun e => by have := (hown2.lt _ e.symm).1; omega)
      rw [show kn + 1 + (m - kn) = m + 1 by omega, flat_join] at hown'
      obtain ⟨V3, c3, rfl⟩ := own_slice hown'
      have hown3 := hown'
      clear hown' hat
      refine hK.out _ _ ⟨(ckg hgrow nr_whole hHeld.1), (ckg hgrow nr_whole hHeld.2.1), (ckg hgrow nr_whole hHeld.2.2.1), (ckg hgrow nr_whole hHeld.2.2.2.1), (ckg hgrow nr_whole hHeld.2.2.2.2.1), (ckg hgrow nr_whole hHeld.2.2.2.2.2.1), (ckg hgrow nr_whole hHeld.2.2.2.2.2.2.1), (ckg hgrow nr_whole hHeld.2.2.2.2.2.2.2.1), (ckg hgrow nr_whole hHeld.2.2.2.2.2.2.2.2.1), (ckg hgrow nr_whole hHeld.2.2.2.2.2.2.2.2.2.1), (ckg hgrow nr_whole hHeld.2.2.2.2.2.2.2.2.2.2)⟩ (fun hHeld => ?_)
      clear hK K
      (try simp only [List.setIfInBounds_toArray, List.set_cons_zero, List.set_cons_succ])
      replace k_whole := bkg hgrow nr_whole k_whole
      replace bw := bw.grown hgrow bw.size (by intro j hj; exact (hown2.lt j hj).1)
      clear hgrow hown2
      refine takx (i := 11) (D := 12) (v := .slice V3 (m + 1) c3) rfl rfl (by kernel_rfl) (by kernel_rfl) (by kernel_rfl) (fun _ _ _ h => h) (Or.inl ⟨by rfl, fun W hSw => by (try dsimp only at hSw); go_simp⟩) (by assumption) ?_
      (try simp only [List.setIfInBounds_toArray, List.set_cons_zero, List.set_cons_succ])
      refine wpAnyH_done (by kernel_rfl) ?_ _
      go_wp2_with fail
      go_meet
      obtain ⟨AJ, cJ, eJ, rJ, _⟩ := RdSteps.of_own hown3 (by omega) JOK.out
      simp only [Value.slice.injEq, true_and] at eJ
      obtain ⟨rfl, rfl⟩ := eJ
      exact ⟨V3, c3, rfl, bk bw k_r, bk bw k_q, rJ, (r0.below bw).more bw.size, bst bw bw0⟩
    · go_simp
      refine hK.out _ _ ⟨cka hHeld.1, cka hHeld.2.1, cka hHeld.2.2.1, cka hHeld.2.2.2.1, cka hHeld.2.2.2.2.1, cka hHeld.2.2.2.2.2.1, cka hHeld.2.2.2.2.2.2.1, cka hHeld.2.2.2.2.2.2.2.1, cka hHeld.2.2.2.2.2.2.2.2.1, cka hHeld.2.2.2.2.2.2.2.2.2.1, cka hHeld.2.2.2.2.2.2.2.2.2.2⟩ (fun hHeld => ?_)
      clear hK K
      (try simp only [List.setIfInBounds_toArray, List.set_cons_zero, List.set_cons_succ])
      obtain ⟨X11, g11, eY, eg⟩ : ∃ Y g, Y = X6.alloc (.cells #[.int .i64 5, .int .i64 0, .int .i64 0, .int .i64 0, .int .i64 0, .int .i64 0, .int .i64 0, .int .i64 0, .int .i64 0, .int .i64 0, .int .i64 0] 62) ∧ g = X6.heap.size := ⟨_, _, rfl, rfl⟩
      rw [← eY, ← eg]
      rw [← eY] at hHeld
      have bc : Below X6.heap.size X6 X11 := by rw [eY]; exact (Below.refl _ _).alloc (Nat.le_refl _) _
      have k_n45 : X11.heap[g11]? = some (.cells #[.int .i64 5, .int .i64 0, .int .i64 0, .int .i64 0, .int .i64 0, .int .i64 0, .int .i64 0, .int .i64 0, .int .i64 0, .int .i64 0, .int .i64 0] 62 (0, 0)) := by rw [eY, eg]; exact heap_alloc_new X6 _
      replace k_whole := bk bc k_whole
      replace bw := bst bc bw
      (try replace hown1 := own_below hown1 bc)
      clear bc eY eg
      refine wpAnyH_ready (rs := [3]) (by kernel_rfl) (by simp) ?_
      refine (AllReadyH.cons rfl (fun K hK => ?_) AllReadyH.nil)
      refine step_app (by rfl) _ _ _ (by rfl) Y5.heap.size 62 i0 (.agg #[.int .i64 0, .int .i64 0, .int .i64 0, .int .i64 0, .int .i64 0, .int .i64 0, .int .i64 0, .int .i64 0, .int .i64 0, .int .i64 0, .int .i64 0]) 11 88 Try.underlying52 hi hz0 hz1 hz2 rfl (by decide) (.slice none 0 0) 0 [] (by rfl) (World.ownsRow_nil _ _ _ _) A0 kn c0 (flat11 (ss.take kn)) (by rfl) (by rw [flat11_length, rT.1]) (rT.below bw).src' (flat11_one _) (by unfold maxLen; omega) (by omega) bw.size ?_
      intro v' X12 hown' hgrow hat
      have nr_whole : some g_whole ≠ (Value.slice none 0 0 : Value).ownBlock := (by intro h; cases h)
      have nr_n45 : some g11 ≠ (Value.slice none 0 0 : Value).ownBlock := (by intro h; cases h)
      rw [Nat.zero_add, List.nil_append] at hown'
      obtain ⟨V1, c1, rfl⟩ := own_slice hown'
      have hown1 := hown'
      clear hown' hat
      refine hK.out _ _ ⟨(ckg hgrow nr_whole hHeld.1), (ckg hgrow nr_whole hHeld.2.1), (ckg hgrow nr_whole hHeld.2.2.1), (ckg hgrow nr_whole hHeld.2.2.2.1), (ckg hgrow nr_whole hHeld.2.2.2.2.1), (ckg hgrow nr_whole hHeld.2.2.2.2.2.1), (ckg hgrow nr_whole hHeld.2.2.2.2.2.2.1), (ckg hgrow nr_whole hHeld.2.2.2.2.2.2.2.1), (ckg hgrow nr_whole hHeld.2.2.2.2.2.2.2.2.1), (ckg hgrow nr_whole hHeld.2.2.2.2.2.2.2.2.2.1), (ckg hgrow nr_whole hHeld.2.2.2.2.2.2.2.2.2.2)⟩ (fun hHeld => ?_)
      clear hK K
      (try simp only [List.setIfInBounds_toArray, List.set_cons_zero, List.set_cons_succ])
      replace k_whole := bkg hgrow nr_whole k_whole
      replace k_n45 := bkg hgrow nr_n45 k_n45
      replace bw := bw.grown hgrow bw.size (by intro j hj; cases hj)
      clear hgrow
      refine wpAnyH_ready (rs := [6]) (by kernel_rfl) (by simp) ?_
      refine (AllReadyH.cons rfl (fun K hK => ?_) AllReadyH.nil)
      refine step_app (by rfl) _ _ _ (by rfl) Y5.heap.size 62 i0 (.agg #[.int .i64 0, .int .i64 0, .int .i64 0, .int .i64 0, .int .i64 0, .int .i64 0, .int .i64 0, .int .i64 0, .int .i64 0, .int .i64 0, .int .i64 0]) 11 88 Try.underlying52 hi hz0 hz1 hz2 rfl (by decide) (.slice V1 kn c1) kn (flat11 (ss.take kn)) (by rfl) hown1 (some ⟨g11, 0, none⟩) 1 1 [.int .i64 5, .int .i64 0, .int .i64 0, .int .i64 0, .int .i64 0, .int .i64 0, .int .i64 0, .int .i64 0, .int .i64 0, .int .i64 0, .int .i64 0] (by rfl) (by rfl) (.inr ⟨_, rfl, World.news_of_block k_n45⟩) (by simp [Value.oneCell']) (by unfold maxLen; omega) (by omega) bw.size ?_
      intro v' X13 hown' hgrow hat
      have nr_whole : some g_whole ≠ (Value.slice V1 kn c1 : Value).ownBlock := (fun e => by have := (hown1.lt _ e.symm).1; omega)
      obtain ⟨V2, c2, rfl⟩ := own_slice hown'
      have hown2 := hown'
      clear hown' hat
      refine hK.out _ _ ⟨(ckg hgrow nr_whole hHeld.1), (ckg hgrow nr_whole hHeld.2.1), (ckg hgrow nr_whole hHeld.2.2.1), (ckg hgrow nr_whole hHeld.2.2.2.1), (ckg hgrow nr_whole hHeld.2.2.2.2.1), (ckg hgrow nr_whole hHeld.2.2.2.2.2.1), (ckg hgrow nr_whole hHeld.2.2.2.2.2.2.1), (ckg hgrow nr_whole hHeld.2.2.2.2.2.2.2.1), (ckg hgrow nr_whole hHeld.2.2.2.2.2.2.2.2.1), (ckg hgrow nr_whole hHeld.2.2.2.2.2.2.2.2.2.1), (ckg hgrow nr_whole hHeld.2.2.2.2.2.2.2.2.2.2)⟩ (fun hHeld => ?_)
      clear hK K
      (try simp only [List.setIfInBounds_toArray, List.set_cons_zero, List.set_cons_succ])
      replace k_whole := bkg hgrow nr_whole k_whole
      replace bw := bw.grown hgrow bw.size (by intro j hj; exact (hown1.lt j hj).1)
      clear hgrow hown1
      refine wpAnyH_ready (rs := [10]) (by kernel_rfl) (by simp) ?_
      refine (AllReadyH.cons rfl (fun K hK => ?_) AllReadyH.nil)
      refine step_app (by rfl) _ _ _ (by rfl) Y5.heap.size 62 i0 (.agg #[.int .i64 0, .int .i64 0, .int .i64 0, .int .i64 0, .int .i64 0, .int .i64 0, .int .i64 0, .int .i64 0, .int .i64 0, .int .i64 0, .int .i64 0]) 11 88 Try.underlying52 hi hz0 hz1 hz2 rfl (by decide) (.slice V2 (kn + 1) c2) (kn + 1) ((flat11 (ss.take kn)) ++ [.int .i64 5, .int .i64 0, .int .i64 0, .int .i64 0, .int .i64 0, .int .i64 0, .int .i64 0, .int .i64 0, .int .i64 0, .int .i64 0, .int .i64 0]) (by rfl) hown2 A2 (m - kn) (c0 - kn) (flat11 (ss.drop kn)) (by rfl) (by rw [flat11_length, rD.1]) (rD.below bw).src' (flat11_one _) (by unfold maxLen; omega) (by omega) bw.size ?_
      intro v' X14 hown' hgrow hat
      have nr_whole : some g_whole ≠ (Value.slice V2 (kn + 1) c2 : Value).ownBlock := (fun e => by have := (hown2.lt _ e.symm).1; omega)
      rw [show kn + 1 + (m - kn) = m + 1 by omega, flat_join] at hown'
      obtain ⟨V3, c3, rfl⟩ := own_slice hown'
      have hown3 := hown'
      clear hown' hat
      refine hK.out _ _ ⟨(ckg hgrow nr_whole hHeld.1), (ckg hgrow nr_whole hHeld.2.1), (ckg hgrow nr_whole hHeld.2.2.1), (ckg hgrow nr_whole hHeld.2.2.2.1), (ckg hgrow nr_whole hHeld.2.2.2.2.1), (ckg hgrow nr_whole hHeld.2.2.2.2.2.1), (ckg hgrow nr_whole hHeld.2.2.2.2.2.2.1), (ckg hgrow nr_whole hHeld.2.2.2.2.2.2.2.1), (ckg hgrow nr_whole hHeld.2.2.2.2.2.2.2.2.1), (ckg hgrow nr_whole hHeld.2.2.2.2.2.2.2.2.2.1), (ckg hgrow nr_whole hHeld.2.2.2.2.2.2.2.2.2.2)⟩ (fun hHeld => ?_)
      clear hK K
      (try simp only [List.setIfInBounds_toArray, List.set_cons_zero, List.set_cons_succ])
      replace k_whole := bkg hgrow nr_whole k_whole
      replace bw := bw.grown hgrow bw.size (by intro j hj; exact (hown2.lt j hj).1)
      clear hgrow hown2
      refine takx (i := 11) (D := 12) (v := .slice V3 (m + 1) c3) rfl rfl (by kernel_rfl) (by kernel_rfl) (by kernel_rfl) (fun _ _ _ h => h) (Or.inl ⟨by rfl, fun W hSw => by (try dsimp only at hSw); go_simp⟩) (by assumption) ?_
      (try simp only [List.setIfInBounds_toArray, List.set_cons_zero, List.set_cons_succ])
      refine wpAnyH_done (by kernel_rfl) ?_ _
      go_wp2_with fail
      go_meet
      obtain ⟨AJ, cJ, eJ, rJ, _⟩ := RdSteps.of_own hown3 (by omega) JOK.out
      simp only [Value.slice.injEq, true_and] at eJ
      obtain ⟨rfl, rfl⟩ := eJ
      exact ⟨V3, c3, rfl, bk bw k_r, bk bw k_q, rJ, (r0.below bw).more bw.size, bst bw bw0⟩
  case rest =>
    clear bw bw0 k_r k_q k_whole r0 rT rD hi hz0 hz1 hz2 i0
    obtain ⟨AJ, cJ, rfl, k_r, k_q, RJ, R0, BW⟩ := hcut
    have bw := BW.out
    have rJ := RJ.out
    have r0 := R0.out
    clear BW RJ R0
    have q_r := q4c k_r
    have q_q := q4c k_q
    go_wp2_with fail
    refine ((grayRun_any a b c d N h3 h4 h5 h6 HN.out n cp Z zs (m + 1) cJ AJ (ss.take kn ++ whl :: ss.drop kn) _ ((HR.out.below bw).more bw.size) rJ).mono (fun _ _ h => h.lite (k := (k1 + k2)) (cs := (l1 ++ l2)) (bs := b2) HEJ.out.1 HEJ.out.2 HKJ.out)).mono ?_
    rintro e Y16 ⟨Aj1, cj1, Aj2, nj2, cj2, Aj3, cj3, rfl, rj1, rj3, loj1, loj3, bc⟩
    clear q_r q_q
    replace k_r := bk bc k_r
    replace k_q := bk bc k_q
    replace bw := bst bc bw
    (try replace r0 := (r0.below bc).more bc.size)
    (try replace rJ := (rJ.below bc).more bc.size)
    (try replace rj1 := (rj1.below bc).more bc.size)
    (try replace rj3 := (rj3.below bc).more bc.size)
    clear loj1 loj3
    clear bc
    have q_r := q4c k_r
    have q_q := q4c k_q
    go_upto_region 7 with fail
    clear q_r q_q
    obtain ⟨Y17, g_p, eY, eg⟩ : ∃ Y g, Y = Y16.alloc (.cells #[.int .i64 a, .int .i64 b, .int .i64 c, .int .i64 d, .int .i64 (c - a), .slice Aj3 N cj3] 29) ∧ g = Y16.heap.size := ⟨_, _, rfl, rfl⟩
    rw [← eY, ← eg]
    have bc : Below Y16.heap.size Y16 Y17 := by rw [eY]; exact (Below.refl _ _).alloc (Nat.le_refl _) _
    have k_p : Y17.heap[g_p]? = some (.cells #[.int .i64 a, .int .i64 b, .int .i64 c, .int .i64 d, .int .i64 (c - a), .slice Aj3 N cj3] 29 (0, 0)) := by rw [eY, eg]; exact heap_alloc_new Y16 _
    replace k_r := bk bc k_r
    replace k_q := bk bc k_q
    replace bw := bst bc bw
    (try replace r0 := (r0.below bc).more bc.size)
    (try replace rJ := (rJ.below bc).more bc.size)
    (try replace rj1 := (rj1.below bc).more bc.size)
    (try replace rj3 := (rj3.below bc).more bc.size)
    clear bc eY eg
    clear rJ
    have q_r := q4c k_r
    have q_q := q4c k_q
    have q_p := q6c k_p
    go_upto_region 7 with fail
    clear q_r q_q q_p
    go_cut [18, 16, 17] (fun s18 s16 s17 wx => ∃ (g_mp : Nat) (A1 : Option Addr) (c1f : Nat) (A2f : Option Addr) (n2f : Nat) (c2f : Nat) (A3 : Option Addr) (c3f : Nat), s18 = .pointer (some ⟨g_mp, 0, none⟩) ∧ s16 = .slice A1 k1 c1f ∧ s17 = .slice A2f n2f c2f ∧ wx.heap[g_mp]? = some (.cells #[.int .i64 a, .int .i64 b, .int .i64 c, .int .i64 d, .int .i64 (c - a), .slice A3 N c3f] 29 (0, 0)) ∧ wx.heap[w.heap.size]? = some (.cells #[.int .i64 a, .int .i64 b, .int .i64 c, .int .i64 d] 23 (0, 0)) ∧ wx.heap[g_q]? = some (.cells #[.int .i64 a, .int .i64 b, .int .i64 c, .int .i64 d] 26 (0, 0)) ∧ wx.heap[g_p]? = some (.cells #[.int .i64 a, .int .i64 b, .int .i64 c, .int .i64 d, .int .i64 (c - a), .slice Aj3 N cj3] 29 (0, 0)) ∧ Hid (Rd wx wx.heap.size Aj1 (k1 + k2) (l1 ++ l2)) ∧ Hid (Rd wx wx.heap.size Aj3 N b2) ∧ Hid (RdSteps wx wx.heap.size A0 m ss) ∧ Hid (Rd wx wx.heap.size A1 k1 l1) ∧ Hid (Rd wx wx.heap.size A3 N b1) ∧ Hid (Below w.heap.size w wx))
    case first =>
      refine wp_region_held_drew (S := fun w' => w'.cell? ⟨g_q, 0, none⟩ = some (.int .i64 a) ∧ w'.cell? ⟨g_q, 1, none⟩ = some (.int .i64 b) ∧ w'.cell? ⟨g_q, 2, none⟩ = some (.int .i64 c) ∧ w'.cell? ⟨g_q, 3, none⟩ = some (.int .i64 d)) (by kernel_rfl) ⟨(q4c k_q).1.1, (q4c k_q).1.2.1, (q4c k_q).1.2.2.1, (q4c k_q).1.2.2.2⟩ ?_
      intro hHeld
      obtain ⟨X18, eX, bc⟩ : ∃ X, X = Y17.drew ∧ Below Y17.heap.size Y17 X := ⟨_, rfl, (Below.refl _ _).drew⟩
      rw [← eX] at hHeld ⊢
      replace k_r := bk bc k_r
      replace k_q := bk bc k_q
      replace k_p := bk bc k_p
      replace bw := bst bc bw
      (try replace rj1 := (rj1.below bc).more bc.size)
      (try replace rj3 := (rj3.below bc).more bc.size)
      (try replace r0 := (r0.below bc).more bc.size)
      (try replace r1 := (r1.below bc).more bc.size)
      (try replace r3 := (r3.below bc).more bc.size)
      clear eX bc
      refine takx (i := 0) (D := 60) (v := .agg #[.int .i64 a, .int .i64 b, .int .i64 c, .int .i64 d]) rfl rfl (by kernel_rfl) (by kernel_rfl) (by kernel_rfl) (fun _ _ _ h => h) (Or.inl ⟨by rfl, fun W hSw => by (try dsimp only at hSw); go_simp⟩) (by assumption) ?_
      (try simp only [List.setIfInBounds_toArray, List.set_cons_zero, List.set_cons_succ])
      refine takx (i := 1) (D := 61) (v := .slice Z n cp) rfl rfl (by kernel_rfl) (by kernel_rfl) (by kernel_rfl) (fun _ _ _ h => h) (Or.inl ⟨by rfl, fun W hSw => by (try dsimp only at hSw); go_simp⟩) (by assumption) ?_
      (try simp only [List.setIfInBounds_toArray, List.set_cons_zero, List.set_cons_succ])
      refine takx (i := 2) (D := 62) (v := .slice A0 m c0) rfl rfl (by kernel_rfl) (by kernel_rfl) (by kernel_rfl) (fun _ _ _ h => h) (Or.inl ⟨by rfl, fun W hSw => by (try dsimp only at hSw); go_simp⟩) (by assumption) ?_
      (try simp only [List.setIfInBounds_toArray, List.set_cons_zero, List.set_cons_succ])
      refine takx (i := 3) (D := 63) (v := .int .i64 kn) rfl rfl (by kernel_rfl) (by kernel_rfl) (by kernel_rfl) (fun _ _ _ h => h) (Or.inl ⟨by rfl, fun W hSw => by (try dsimp only at hSw); go_simp⟩) (by assumption) ?_
      (try simp only [List.setIfInBounds_toArray, List.set_cons_zero, List.set_cons_succ])
      refine takx (i := 4) (D := 64) (v := .slice A0 kn c0) rfl rfl (by kernel_rfl) (by kernel_rfl) (by kernel_rfl) (fun _ _ _ h => h) (Or.inl ⟨by rfl, fun W hSw => by (try dsimp only at hSw); go_simp⟩) (by assumption) ?_
      (try simp only [List.setIfInBounds_toArray, List.set_cons_zero, List.set_cons_succ])
      refine wpAnyH_ready (rs := [5, 10]) (by kernel_rfl) (by simp) ?_
      refine (AllReadyH.cons rfl (fun K hK => ?_) (AllReadyH.cons rfl (fun K hK => ?_) AllReadyH.nil))
      · go_simp
        refine ((grayRun_any a b c d N h3 h4 h5 h6 HN.out n cp Z zs kn c0 A0 (ss.take kn) _ ((HR.out.below bw).more bw.size) (r0.take hkm)).mono (fun _ _ h => h.lite (k := k1) (cs := l1) (bs := b1) HE1.out.1 HE1.out.2 HK1.out)).mono ?_
        rintro e X19 ⟨A1, c1f, A2f, n2f, c2f, A3, c3f, rfl, r1, r3, lo1, lo3, bc⟩
        refine hK.out _ _ ⟨ck bc hHeld.1, ck bc hHeld.2.1, ck bc hHeld.2.2.1, ck bc hHeld.2.2.2⟩ (fun hHeld => ?_)
        clear hK K
        (try simp only [List.setIfInBounds_toArray, List.set_cons_zero, List.set_cons_succ])
        replace k_r := bk bc k_r
        replace k_q := bk bc k_q
        replace k_p := bk bc k_p
        replace bw := bst bc bw
        (try replace rj1 := (rj1.below bc).more bc.size)
        (try replace rj3 := (rj3.below bc).more bc.size)
        (try replace r0 := (r0.below bc).more bc.size)
        (try replace r1 := (r1.below bc).more bc.size)
        (try replace r3 := (r3.below bc).more bc.size)
        clear bc
        refine takx (i := 6) (D := 59) (v := .tuple #[.slice A1 k1 c1f, .slice A2f n2f c2f, .agg #[.int .i64 a, .int .i64 b, .int .i64 c, .int .i64 d, .int .i64 (c - a), .slice A3 N c3f]]) rfl rfl (by kernel_rfl) (by kernel_rfl) (by kernel_rfl) (fun _ _ _ h => h) (Or.inl ⟨by rfl, fun W hSw => by (try dsimp only at hSw); go_simp⟩) (by assumption) ?_
        (try simp only [List.setIfInBounds_toArray, List.set_cons_zero, List.set_cons_succ])
        refine takx (i := 7) (D := 66) (v := .slice A1 k1 c1f) rfl rfl (by kernel_rfl) (by kernel_rfl) (by kernel_rfl) (fun _ _ _ h => h) (Or.inl ⟨by rfl, fun W hSw => by (try dsimp only at hSw); go_simp⟩) (by assumption) ?_
        (try simp only [List.setIfInBounds_toArray, List.set_cons_zero, List.set_cons_succ])
        refine takx (i := 8) (D := 67) (v := .slice A2f n2f c2f) rfl rfl (by kernel_rfl) (by kernel_rfl) (by kernel_rfl) (fun _ _ _ h => h) (Or.inl ⟨by rfl, fun W hSw => by (try dsimp only at hSw); go_simp⟩) (by assumption) ?_
        (try simp only [List.setIfInBounds_toArray, List.set_cons_zero, List.set_cons_succ])
        refine takx (i := 9) (D := 68) (v := .agg #[.int .i64 a, .int .i64 b, .int .i64 c, .int .i64 d, .int .i64 (c - a), .slice A3 N c3f]) rfl rfl (by kernel_rfl) (by kernel_rfl) (by kernel_rfl) (fun _ _ _ h => h) (Or.inl ⟨by rfl, fun W hSw => by (try dsimp only at hSw); go_simp⟩) (by assumption) ?_
        (try simp only [List.setIfInBounds_toArray, List.set_cons_zero, List.set_cons_succ])
        refine wpAnyH_ready (rs := [10]) (by kernel_rfl) (by simp) ?_
        refine (AllReadyH.cons rfl (fun K hK => ?_) AllReadyH.nil)
        go_simp
        refine hK.out _ _ ⟨cka hHeld.1, cka hHeld.2.1, cka hHeld.2.2.1, cka hHeld.2.2.2⟩ (fun hHeld => ?_)
        clear hK K
        (try simp only [List.setIfInBounds_toArray, List.set_cons_zero, List.set_cons_succ])
        obtain ⟨X20, g20, eY, eg⟩ : ∃ Y g, Y = X19.alloc (.cells #[.int .i64 0, .int .i64 0, .int .i64 0, .int .i64 0, .int .i64 0, .slice none 0 0] 29) ∧ g = X19.heap.size := ⟨_, _, rfl, rfl⟩
        rw [← eY, ← eg]
        rw [← eY] at hHeld
        have bc : Below X19.heap.size X19 X20 := by rw [eY]; exact (Below.refl _ _).alloc (Nat.le_refl _) _
        have k_n18 : X20.heap[g20]? = some (.cells #[.int .i64 0, .int .i64 0, .int .i64 0, .int .i64 0, .int .i64 0, .slice none 0 0] 29 (0, 0)) := by rw [eY, eg]; exact heap_alloc_new X19 _
        have lo_n18 : w.heap.size ≤ g20 := by rw [eg]; exact bw.size
        have ne_r_n18 : ¬ w.heap.size = g20 := ne_new k_r eg
        have ne_q_n18 : ¬ g_q = g20 := ne_new k_q eg
        have ne_p_n18 : ¬ g_p = g20 := ne_new k_p eg
        (try have na_rj1 := Rd.ne_new rj1 eg)
        (try have na_rj3 := Rd.ne_new rj3 eg)
        (try have na_r0 := RdSteps.ne_new r0 eg)
        (try have na_r1 := Rd.ne_new r1 eg)
        (try have na_r3 := Rd.ne_new r3 eg)
        replace k_r := bk bc k_r
        replace k_q := bk bc k_q
        replace k_p := bk bc k_p
        replace bw := bst bc bw
        (try replace rj1 := (rj1.below bc).more bc.size)
        (try replace rj3 := (rj3.below bc).more bc.size)
        (try replace r0 := (r0.below bc).more bc.size)
        (try replace r1 := (r1.below bc).more bc.size)
        (try replace r3 := (r3.below bc).more bc.size)
        clear bc eY eg
        refine takx (i := 11) (D := 16) (v := .slice A1 k1 c1f) rfl rfl (by kernel_rfl) (by kernel_rfl) (by kernel_rfl) (fun _ _ _ h => h) (Or.inl ⟨by rfl, fun W hSw => by (try dsimp only at hSw); go_simp⟩) (by assumption) ?_
        (try simp only [List.setIfInBounds_toArray, List.set_cons_zero, List.set_cons_succ])
        refine takx (i := 12) (D := 17) (v := .slice A2f n2f c2f) rfl rfl (by kernel_rfl) (by kernel_rfl) (by kernel_rfl) (fun _ _ _ h => h) (Or.inl ⟨by rfl, fun W hSw => by (try dsimp only at hSw); go_simp⟩) (by assumption) ?_
        (try simp only [List.setIfInBounds_toArray, List.set_cons_zero, List.set_cons_succ])
        refine wpAnyH_ready (rs := [13]) (by kernel_rfl) (by simp) ?_
        refine (AllReadyH.cons rfl (fun K hK => ?_) AllReadyH.nil)
        have qq := q6c k_n18
        go_simp
        clear qq
        refine hK.out _ _ ⟨(cks ne_q_n18 (cks ne_q_n18 (cks ne_q_n18 (cks ne_q_n18 (cks ne_q_n18 (cks ne_q_n18 hHeld.1)))))), (cks ne_q_n18 (cks ne_q_n18 (cks ne_q_n18 (cks ne_q_n18 (cks ne_q_n18 (cks ne_q_n18 hHeld.2.1)))))), (cks ne_q_n18 (cks ne_q_n18 (cks ne_q_n18 (cks ne_q_n18 (cks ne_q_n18 (cks ne_q_n18 hHeld.2.2.1)))))), (cks ne_q_n18 (cks ne_q_n18 (cks ne_q_n18 (cks ne_q_n18 (cks ne_q_n18 (cks ne_q_n18 hHeld.2.2.2))))))⟩ (fun hHeld => ?_)
        clear hK K
        (try simp only [List.setIfInBounds_toArray, List.set_cons_zero, List.set_cons_succ])
        obtain ⟨X21, eY⟩ : ∃ Y, Y = ((((((X20.setCell ⟨g20, 0, none⟩ (.int .i64 a)).setCell ⟨g20, 1, none⟩ (.int .i64 b)).setCell ⟨g20, 2, none⟩ (.int .i64 c)).setCell ⟨g20, 3, none⟩ (.int .i64 d)).setCell ⟨g20, 4, none⟩ (.int .i64 (c - a))).setCell ⟨g20, 5, none⟩ (.slice A3 N c3f)) := ⟨_, rfl⟩
        rw [← eY] at hHeld ⊢
        replace k_r : X21.heap[w.heap.size]? = some (.cells #[.int .i64 a, .int .i64 b, .int .i64 c, .int .i64 d] 23 (0, 0)) := by rw [eY]; exact (bks ne_r_n18 (bks ne_r_n18 (bks ne_r_n18 (bks ne_r_n18 (bks ne_r_n18 (bks ne_r_n18 k_r))))))
        replace k_q : X21.heap[g_q]? = some (.cells #[.int .i64 a, .int .i64 b, .int .i64 c, .int .i64 d] 26 (0, 0)) := by rw [eY]; exact (bks ne_q_n18 (bks ne_q_n18 (bks ne_q_n18 (bks ne_q_n18 (bks ne_q_n18 (bks ne_q_n18 k_q))))))
        replace k_p : X21.heap[g_p]? = some (.cells #[.int .i64 a, .int .i64 b, .int .i64 c, .int .i64 d, .int .i64 (c - a), .slice Aj3 N cj3] 29 (0, 0)) := by rw [eY]; exact (bks ne_p_n18 (bks ne_p_n18 (bks ne_p_n18 (bks ne_p_n18 (bks ne_p_n18 (bks ne_p_n18 k_p))))))
        replace bw : Below w.heap.size w X21 := by rw [eY]; exact (bss lo_n18 (bss lo_n18 (bss lo_n18 (bss lo_n18 (bss lo_n18 (bss lo_n18 bw))))))
        replace k_n18 : X21.heap[g20]? = some (.cells #[.int .i64 a, .int .i64 b, .int .i64 c, .int .i64 d, .int .i64 (c - a), .slice A3 N c3f] 29 (0, 0)) := by rw [eY]; exact q6s k_n18
        (try replace rj1 := Rd.sized (W := X21) (Rd.sset na_rj1 (Rd.sset na_rj1 (Rd.sset na_rj1 (Rd.sset na_rj1 (Rd.sset na_rj1 (Rd.sset na_rj1 rj1)))))) eY)
        (try replace rj3 := Rd.sized (W := X21) (Rd.sset na_rj3 (Rd.sset na_rj3 (Rd.sset na_rj3 (Rd.sset na_rj3 (Rd.sset na_rj3 (Rd.sset na_rj3 rj3)))))) eY)
        (try replace r0 := RdSteps.sized (W := X21) (RdSteps.sset na_r0 (RdSteps.sset na_r0 (RdSteps.sset na_r0 (RdSteps.sset na_r0 (RdSteps.sset na_r0 (RdSteps.sset na_r0 r0)))))) eY)
        (try replace r1 := Rd.sized (W := X21) (Rd.sset na_r1 (Rd.sset na_r1 (Rd.sset na_r1 (Rd.sset na_r1 (Rd.sset na_r1 (Rd.sset na_r1 r1)))))) eY)
        (try replace r3 := Rd.sized (W := X21) (Rd.sset na_r3 (Rd.sset na_r3 (Rd.sset na_r3 (Rd.sset na_r3 (Rd.sset na_r3 (Rd.sset na_r3 r3)))))) eY)
        clear eY
        refine wpAnyH_done (by kernel_rfl) ?_ _
        go_wp2_with fail
        go_meet
        exact ⟨_, A1, c1f, A2f, n2f, c2f, A3, c3f, rfl, rfl, rfl, k_n18, k_r, k_q, k_p, rj1, rj3, r0, r1, r3, bw⟩
      · go_simp
        refine hK.out _ _ ⟨cka hHeld.1, cka hHeld.2.1, cka hHeld.2.2.1, cka hHeld.2.2.2⟩ (fun hHeld => ?_)
        clear hK K
        (try simp only [List.setIfInBounds_toArray, List.set_cons_zero, List.set_cons_succ])
        obtain ⟨X22, g22, eY, eg⟩ : ∃ Y g, Y = X18.alloc (.cells #[.int .i64 0, .int .i64 0, .int .i64 0, .int .i64 0, .int .i64 0, .slice none 0 0] 29) ∧ g = X18.heap.size := ⟨_, _, rfl, rfl⟩
        rw [← eY, ← eg]
        rw [← eY] at hHeld
        have bc : Below X18.heap.size X18 X22 := by rw [eY]; exact (Below.refl _ _).alloc (Nat.le_refl _) _
        have k_n18 : X22.heap[g22]? = some (.cells #[.int .i64 0, .int .i64 0, .int .i64 0, .int .i64 0, .int .i64 0, .slice none 0 0] 29 (0, 0)) := by rw [eY, eg]; exact heap_alloc_new X18 _
        have lo_n18 : w.heap.size ≤ g22 := by rw [eg]; exact bw.size
        have ne_r_n18 : ¬ w.heap.size = g22 := ne_new k_r eg
        have ne_q_n18 : ¬ g_q = g22 := ne_new k_q eg
        have ne_p_n18 : ¬ g_p = g22 := ne_new k_p eg
        (try have na_rj1 := Rd.ne_new rj1 eg)
        (try have na_rj3 := Rd.ne_new rj3 eg)
        (try have na_r0 := RdSteps.ne_new r0 eg)
        (try have na_r1 := Rd.ne_new r1 eg)
        (try have na_r3 := Rd.ne_new r3 eg)
        replace k_r := bk bc k_r
        replace k_q := bk bc k_q
        replace k_p := bk bc k_p
        replace bw := bst bc bw
        (try replace rj1 := (rj1.below bc).more bc.size)
        (try replace rj3 := (rj3.below bc).more bc.size)
        (try replace r0 := (r0.below bc).more bc.size)
        (try replace r1 := (r1.below bc).more bc.size)
        (try replace r3 := (r3.below bc).more bc.size)
        clear bc eY eg
        refine wpAnyH_ready (rs := [5]) (by kernel_rfl) (by simp) ?_
        refine (AllReadyH.cons rfl (fun K hK => ?_) AllReadyH.nil)
        go_simp
        refine ((grayRun_any a b c d N h3 h4 h5 h6 HN.out n cp Z zs kn c0 A0 (ss.take kn) _ ((HR.out.below bw).more bw.size) (r0.take hkm)).mono (fun _ _ h => h.lite (k := k1) (cs := l1) (bs := b1) HE1.out.1 HE1.out.2 HK1.out)).mono ?_
        rintro e X23 ⟨A1, c1f, A2f, n2f, c2f, A3, c3f, rfl, r1, r3, lo1, lo3, bc⟩
        refine hK.out _ _ ⟨ck bc hHeld.1, ck bc hHeld.2.1, ck bc hHeld.2.2.1, ck bc hHeld.2.2.2⟩ (fun hHeld => ?_)
        clear hK K
        (try simp only [List.setIfInBounds_toArray, List.set_cons_zero, List.set_cons_succ])
        have na_r1 := lo_ne (n := k1) lo1 k_n18
        have na_r3 := lo_ne (n := N) lo3 k_n18
        replace k_r := bk bc k_r
        replace k_q := bk bc k_q
        replace k_p := bk bc k_p
        replace k_n18 := bk bc k_n18
        replace bw := bst bc bw
        (try replace rj1 := (rj1.below bc).more bc.size)
        (try replace rj3 := (rj3.below bc).more bc.size)
        (try replace r0 := (r0.below bc).more bc.size)
        (try replace r1 := (r1.below bc).more bc.size)
        (try replace r3 := (r3.below bc).more bc.size)
        clear bc
        refine takx (i := 6) (D := 59) (v := .tuple #[.slice A1 k1 c1f, .slice A2f n2f c2f, .agg #[.int .i64 a, .int .i64 b, .int .i64 c, .int .i64 d, .int .i64 (c - a), .slice A3 N c3f]]) rfl rfl (by kernel_rfl) (by kernel_rfl) (by kernel_rfl) (fun _ _ _ h => h) (Or.inl ⟨by rfl, fun W hSw => by (try dsimp only at hSw); go_simp⟩) (by assumption) ?_
        (try simp only [List.setIfInBounds_toArray, List.set_cons_zero, List.set_cons_succ])
        refine takx (i := 7) (D := 66) (v := .slice A1 k1 c1f) rfl rfl (by kernel_rfl) (by kernel_rfl) (by kernel_rfl) (fun _ _ _ h => h) (Or.inl ⟨by rfl, fun W hSw => by (try dsimp only at hSw); go_simp⟩) (by assumption) ?_
        (try simp only [List.setIfInBounds_toArray, List.set_cons_zero, List.set_cons_succ])
        refine takx (i := 8) (D := 67) (v := .slice A2f n2f c2f) rfl rfl (by kernel_rfl) (by kernel_rfl) (by kernel_rfl) (fun _ _ _ h => h) (Or.inl ⟨by rfl, fun W hSw => by (try dsimp only at hSw); go_simp⟩) (by assumption) ?_
        (try simp only [List.setIfInBounds_toArray, List.set_cons_zero, List.set_cons_succ])
        refine takx (i := 9) (D := 68) (v := .agg #[.int .i64 a, .int .i64 b, .int .i64 c, .int .i64 d, .int .i64 (c - a), .slice A3 N c3f]) rfl rfl (by kernel_rfl) (by kernel_rfl) (by kernel_rfl) (fun _ _ _ h => h) (Or.inl ⟨by rfl, fun W hSw => by (try dsimp only at hSw); go_simp⟩) (by assumption) ?_
        (try simp only [List.setIfInBounds_toArray, List.set_cons_zero, List.set_cons_succ])
        refine takx (i := 11) (D := 16) (v := .slice A1 k1 c1f) rfl rfl (by kernel_rfl) (by kernel_rfl) (by kernel_rfl) (fun _ _ _ h => h) (Or.inl ⟨by rfl, fun W hSw => by (try dsimp only at hSw); go_simp⟩) (by assumption) ?_
        (try simp only [List.setIfInBounds_toArray, List.set_cons_zero, List.set_cons_succ])
        refine takx (i := 12) (D := 17) (v := .slice A2f n2f c2f) rfl rfl (by kernel_rfl) (by kernel_rfl) (by kernel_rfl) (fun _ _ _ h => h) (Or.inl ⟨by rfl, fun W hSw => by (try dsimp only at hSw); go_simp⟩) (by assumption) ?_
        (try simp only [List.setIfInBounds_toArray, List.set_cons_zero, List.set_cons_succ])
        refine wpAnyH_ready (rs := [13]) (by kernel_rfl) (by simp) ?_
        refine (AllReadyH.cons rfl (fun K hK => ?_) AllReadyH.nil)
        have qq := q6c k_n18
        go_simp
        clear qq
        refine hK.out _ _ ⟨(cks ne_q_n18 (cks ne_q_n18 (cks ne_q_n18 (cks ne_q_n18 (cks ne_q_n18 (cks ne_q_n18 hHeld.1)))))), (cks ne_q_n18 (cks ne_q_n18 (cks ne_q_n18 (cks ne_q_n18 (cks ne_q_n18 (cks ne_q_n18 hHeld.2.1)))))), (cks ne_q_n18 (cks ne_q_n18 (cks ne_q_n18 (cks ne_q_n18 (cks ne_q_n18 (cks ne_q_n18 hHeld.2.2.1)))))), (cks ne_q_n18 (cks ne_q_n18 (cks ne_q_n18 (cks ne_q_n18 (cks ne_q_n18 (cks ne_q_n18 hHeld.2.2.2))))))⟩ (fun hHeld => ?_)
        clear hK K
        (try simp only [List.setIfInBounds_toArray, List.set_cons_zero, List.set_cons_succ])
        obtain ⟨X24, eY⟩ : ∃ Y, Y = ((((((X23.setCell ⟨g22, 0, none⟩ (.int .i64 a)).setCell ⟨g22, 1, none⟩ (.int .i64 b)).setCell ⟨g22, 2, none⟩ (.int .i64 c)).setCell ⟨g22, 3, none⟩ (.int .i64 d)).setCell ⟨g22, 4, none⟩ (.int .i64 (c - a))).setCell ⟨g22, 5, none⟩ (.slice A3 N c3f)) := ⟨_, rfl⟩
        rw [← eY] at hHeld ⊢
        replace k_r : X24.heap[w.heap.size]? = some (.cells #[.int .i64 a, .int .i64 b, .int .i64 c, .int .i64 d] 23 (0, 0)) := by rw [eY]; exact (bks ne_r_n18 (bks ne_r_n18 (bks ne_r_n18 (bks ne_r_n18 (bks ne_r_n18 (bks ne_r_n18 k_r))))))
        replace k_q : X24.heap[g_q]? = some (.cells #[.int .i64 a, .int .i64 b, .int .i64 c, .int .i64 d] 26 (0, 0)) := by rw [eY]; exact (bks ne_q_n18 (bks ne_q_n18 (bks ne_q_n18 (bks ne_q_n18 (bks ne_q_n18 (bks ne_q_n18 k_q))))))
        replace k_p : X24.heap[g_p]? = some (.cells #[.int .i64 a, .int .i64 b, .int .i64 c, .int .i64 d, .int .i64 (c - a), .slice Aj3 N cj3] 29 (0, 0)) := by rw [eY]; exact (bks ne_p_n18 (bks ne_p_n18 (bks ne_p_n18 (bks ne_p_n18 (bks ne_p_n18 (bks ne_p_n18 k_p))))))
        replace bw : Below w.heap.size w X24 := by rw [eY]; exact (bss lo_n18 (bss lo_n18 (bss lo_n18 (bss lo_n18 (bss lo_n18 (bss lo_n18 bw))))))
        replace k_n18 : X24.heap[g22]? = some (.cells #[.int .i64 a, .int .i64 b, .int .i64 c, .int .i64 d, .int .i64 (c - a), .slice A3 N c3f] 29 (0, 0)) := by rw [eY]; exact q6s k_n18
        (try replace rj1 := Rd.sized (W := X24) (Rd.sset na_rj1 (Rd.sset na_rj1 (Rd.sset na_rj1 (Rd.sset na_rj1 (Rd.sset na_rj1 (Rd.sset na_rj1 rj1)))))) eY)
        (try replace rj3 := Rd.sized (W := X24) (Rd.sset na_rj3 (Rd.sset na_rj3 (Rd.sset na_rj3 (Rd.sset na_rj3 (Rd.sset na_rj3 (Rd.sset na_rj3 rj3)))))) eY)
        (try replace r0 := RdSteps.sized (W := X24) (RdSteps.sset na_r0 (RdSteps.sset na_r0 (RdSteps.sset na_r0 (RdSteps.sset na_r0 (RdSteps.sset na_r0 (RdSteps.sset na_r0 r0)))))) eY)
        (try replace r1 := Rd.sized (W := X24) (Rd.sset na_r1 (Rd.sset na_r1 (Rd.sset na_r1 (Rd.sset na_r1 (Rd.sset na_r1 (Rd.sset na_r1 r1)))))) eY)
        (try replace r3 := Rd.sized (W := X24) (Rd.sset na_r3 (Rd.sset na_r3 (Rd.sset na_r3 (Rd.sset na_r3 (Rd.sset na_r3 (Rd.sset na_r3 r3)))))) eY)
        clear eY
        refine wpAnyH_done (by kernel_rfl) ?_ _
        go_wp2_with fail
        go_meet
        exact ⟨_, A1, c1f, A2f, n2f, c2f, A3, c3f, rfl, rfl, rfl, k_n18, k_r, k_q, k_p, rj1, rj3, r0, r1, r3, bw⟩
    case rest =>
      clear k_r k_q k_p bw
      obtain ⟨g_mp, A1, c1f, A2f, n2f, c2f, A3, c3f, rfl, rfl, rfl, k_mp, k_r, k_q, k_p, RJ1, RJ3, R0, R1, R3, BW⟩ := hcut
      have bw := BW.out
      clear BW
      clear rj1 rj3 r0
      have rj1 := RJ1.out
      have rj3 := RJ3.out
      have r0 := R0.out
      have r1 := R1.out
      have r3 := R3.out
      clear RJ1 RJ3 R0 R1 R3
      have q_r := q4c k_r
      have q_q := q4c k_q
      have q_p := q6c k_p
      have q_mp := q6c k_mp
      go_upto_region 8 with fail
      clear q_r q_q q_p q_mp
      go_cut [21, 19, 20] (fun s21 s19 s20 wx => ∃ (g_o : Nat) (A5 : Option Addr) (c5f : Nat) (A6f : Option Addr) (n6f : Nat) (c6f : Nat) (A4 : Option Addr) (c4f : Nat), s21 = .pointer (some ⟨g_o, 0, none⟩) ∧ s19 = .slice A5 k2 c5f ∧ s20 = .slice A6f n6f c6f ∧ wx.heap[g_o]? = some (.cells #[.int .i64 a, .int .i64 b, .int .i64 c, .int .i64 d, .int .i64 (c - a), .slice A4 N c4f] 29 (0, 0)) ∧ wx.heap[w.heap.size]? = some (.cells #[.int .i64 a, .int .i64 b, .int .i64 c, .int .i64 d] 23 (0, 0)) ∧ wx.heap[g_q]? = some (.cells #[.int .i64 a, .int .i64 b, .int .i64 c, .int .i64 d] 26 (0, 0)) ∧ wx.heap[g_p]? = some (.cells #[.int .i64 a, .int .i64 b, .int .i64 c, .int .i64 d, .int .i64 (c - a), .slice Aj3 N cj3] 29 (0, 0)) ∧ wx.heap[g_mp]? = some (.cells #[.int .i64 a, .int .i64 b, .int .i64 c, .int .i64 d, .int .i64 (c - a), .slice A3 N c3f] 29 (0, 0)) ∧ Hid (Rd wx wx.heap.size Aj1 (k1 + k2) (l1 ++ l2)) ∧ Hid (Rd wx wx.heap.size Aj3 N b2) ∧ Hid (Rd wx wx.heap.size A1 k1 l1) ∧ Hid (Rd wx wx.heap.size A4 N b2) ∧ Hid (Rd wx wx.heap.size A5 k2 l2) ∧ Hid (Below w.heap.size w wx))
      case first =>
        refine wp_region_held_drew (S := fun w' => w'.cell? ⟨g_q, 0, none⟩ = some (.int .i64 a) ∧ w'.cell? ⟨g_q, 1, none⟩ = some (.int .i64 b) ∧ w'.cell? ⟨g_q, 2, none⟩ = some (.int .i64 c) ∧ w'.cell? ⟨g_q, 3, none⟩ = some (.int .i64 d) ∧ w'.cell? ⟨g_mp, 0, none⟩ = some (.int .i64 a) ∧ w'.cell? ⟨g_mp, 1, none⟩ = some (.int .i64 b) ∧ w'.cell? ⟨g_mp, 2, none⟩ = some (.int .i64 c) ∧ w'.cell? ⟨g_mp, 3, none⟩ = some (.int .i64 d) ∧ w'.cell? ⟨g_mp, 4, none⟩ = some (.int .i64 (c - a)) ∧ w'.cell? ⟨g_mp, 5, none⟩ = some (.slice A3 N c3f)) (by kernel_rfl) ⟨(q4c k_q).1.1, (q4c k_q).1.2.1, (q4c k_q).1.2.2.1, (q4c k_q).1.2.2.2, (q6c k_mp).1.1, (q6c k_mp).1.2.1, (q6c k_mp).1.2.2.1, (q6c k_mp).1.2.2.2.1, (q6c k_mp).1.2.2.2.2.1, (q6c k_mp).1.2.2.2.2.2⟩ ?_
        intro hHeld
        obtain ⟨X26, eX, bc⟩ : ∃ X, X = wc.drew ∧ Below wc.heap.size wc X := ⟨_, rfl, (Below.refl _ _).drew⟩
        rw [← eX] at hHeld ⊢
        replace k_r := bk bc k_r
        replace k_q := bk bc k_q
        replace k_p := bk bc k_p
        replace k_mp := bk bc k_mp
        replace bw := bst bc bw
        (try replace rj1 := (rj1.below bc).more bc.size)
        (try replace rj3 := (rj3.below bc).more bc.size)
        (try replace r0 := (r0.below bc).more bc.size)
        (try replace r1 := (r1.below bc).more bc.size)
        (try replace r3 := (r3.below bc).more bc.size)
        (try replace r4 := (r4.below bc).more bc.size)
        (try replace r5 := (r5.below bc).more bc.size)
        clear eX bc
        refine takx (i := 0) (D := 70) (v := .agg #[.int .i64 a, .int .i64 b, .int .i64 c, .int .i64 d]) rfl rfl (by kernel_rfl) (by kernel_rfl) (by kernel_rfl) (fun _ _ _ h => h) (Or.inl ⟨by rfl, fun W hSw => by (try dsimp only at hSw); go_simp⟩) (by assumption) ?_
        (try simp only [List.setIfInBounds_toArray, List.set_cons_zero, List.set_cons_succ])
        refine takx (i := 1) (D := 71) (v := .pointer (some ⟨g_mp, 5, none⟩)) rfl rfl (by kernel_rfl) (by kernel_rfl) (by kernel_rfl) (fun _ _ _ h => h) (Or.inl ⟨by rfl, fun W hSw => by (try dsimp only at hSw); go_simp⟩) (by assumption) ?_
        (try simp only [List.setIfInBounds_toArray, List.set_cons_zero, List.set_cons_succ])
        refine takx (i := 2) (D := 72) (v := .slice A3 N c3f) rfl rfl (by kernel_rfl) (by kernel_rfl) (by kernel_rfl) (fun _ _ _ h => h) (Or.inl ⟨by rfl, fun W hSw => by (try dsimp only at hSw); go_simp⟩) (by assumption) ?_
        (try simp only [List.setIfInBounds_toArray, List.set_cons_zero, List.set_cons_succ])
        refine takx (i := 3) (D := 73) (v := .slice A0 m c0) rfl rfl (by kernel_rfl) (by kernel_rfl) (by kernel_rfl) (fun _ _ _ h => h) (Or.inl ⟨by rfl, fun W hSw => by (try dsimp only at hSw); go_simp⟩) (by assumption) ?_
        (try simp only [List.setIfInBounds_toArray, List.set_cons_zero, List.set_cons_succ])
        refine takx (i := 4) (D := 74) (v := .int .i64 kn) rfl rfl (by kernel_rfl) (by kernel_rfl) (by kernel_rfl) (fun _ _ _ h => h) (Or.inl ⟨by rfl, fun W hSw => by (try dsimp only at hSw); go_simp⟩) (by assumption) ?_
        (try simp only [List.setIfInBounds_toArray, List.set_cons_zero, List.set_cons_succ])
        refine takx (i := 5) (D := 75) (v := .slice A2 (m - kn) (c0 - kn)) rfl rfl (by kernel_rfl) (by kernel_rfl) (by kernel_rfl) (fun _ _ _ h => h) (Or.inl ⟨by rfl, fun W hSw => by (try dsimp only at hSw); go_simp⟩) (by assumption) ?_
        (try simp only [List.setIfInBounds_toArray, List.set_cons_zero, List.set_cons_succ])
        refine wpAnyH_ready (rs := [6, 11]) (by kernel_rfl) (by simp) ?_
        refine (AllReadyH.cons rfl (fun K hK => ?_) (AllReadyH.cons rfl (fun K hK => ?_) AllReadyH.nil))
        · go_simp
          refine ((grayRun_any a b c d N h3 h4 h5 h6 HN.out N c3f A3 b1 (m - kn) (c0 - kn) A2 (ss.drop kn) _ r3 (r0.drop hkm hA2)).mono (fun _ _ h => h.lite (k := k2) (cs := l2) (bs := b2) HE2.out.1 HE2.out.2 HK2.out)).mono ?_
          rintro e X27 ⟨A5, c5f, A6f, n6f, c6f, A4, c4f, rfl, r5, r4, lo5, lo4, bc⟩
          refine hK.out _ _ ⟨ck bc hHeld.1, ck bc hHeld.2.1, ck bc hHeld.2.2.1, ck bc hHeld.2.2.2.1, ck bc hHeld.2.2.2.2.1, ck bc hHeld.2.2.2.2.2.1, ck bc hHeld.2.2.2.2.2.2.1, ck bc hHeld.2.2.2.2.2.2.2.1, ck bc hHeld.2.2.2.2.2.2.2.2.1, ck bc hHeld.2.2.2.2.2.2.2.2.2⟩ (fun hHeld => ?_)
          clear hK K
          (try simp only [List.setIfInBounds_toArray, List.set_cons_zero, List.set_cons_succ])
          replace k_r := bk bc k_r
          replace k_q := bk bc k_q
          replace k_p := bk bc k_p
          replace k_mp := bk bc k_mp
          replace bw := bst bc bw
          (try replace rj1 := (rj1.below bc).more bc.size)
          (try replace rj3 := (rj3.below bc).more bc.size)
          (try replace r0 := (r0.below bc).more bc.size)
          (try replace r1 := (r1.below bc).more bc.size)
          (try replace r3 := (r3.below bc).more bc.size)
          (try replace r4 := (r4.below bc).more bc.size)
          (try replace r5 := (r5.below bc).more bc.size)
          clear bc
          refine takx (i := 7) (D := 69) (v := .tuple #[.slice A5 k2 c5f, .slice A6f n6f c6f, .agg #[.int .i64 a, .int .i64 b, .int .i64 c, .int .i64 d, .int .i64 (c - a), .slice A4 N c4f]]) rfl rfl (by kernel_rfl) (by kernel_rfl) (by kernel_rfl) (fun _ _ _ h => h) (Or.inl ⟨by rfl, fun W hSw => by (try dsimp only at hSw); go_simp⟩) (by assumption) ?_
          (try simp only [List.setIfInBounds_toArray, List.set_cons_zero, List.set_cons_succ])
          refine takx (i := 8) (D := 77) (v := .slice A5 k2 c5f) rfl rfl (by kernel_rfl) (by kernel_rfl) (by kernel_rfl) (fun _ _ _ h => h) (Or.inl ⟨by rfl, fun W hSw => by (try dsimp only at hSw); go_simp⟩) (by assumption) ?_
          (try simp only [List.setIfInBounds_toArray, List.set_cons_zero, List.set_cons_succ])
          refine takx (i := 9) (D := 78) (v := .slice A6f n6f c6f) rfl rfl (by kernel_rfl) (by kernel_rfl) (by kernel_rfl) (fun _ _ _ h => h) (Or.inl ⟨by rfl, fun W hSw => by (try dsimp only at hSw); go_simp⟩) (by assumption) ?_
          (try simp only [List.setIfInBounds_toArray, List.set_cons_zero, List.set_cons_succ])
          refine takx (i := 10) (D := 79) (v := .agg #[.int .i64 a, .int .i64 b, .int .i64 c, .int .i64 d, .int .i64 (c - a), .slice A4 N c4f]) rfl rfl (by kernel_rfl) (by kernel_rfl) (by kernel_rfl) (fun _ _ _ h => h) (Or.inl ⟨by rfl, fun W hSw => by (try dsimp only at hSw); go_simp⟩) (by assumption) ?_
          (try simp only [List.setIfInBounds_toArray, List.set_cons_zero, List.set_cons_succ])
          refine wpAnyH_ready (rs := [11]) (by kernel_rfl) (by simp) ?_
          refine (AllReadyH.cons rfl (fun K hK => ?_) AllReadyH.nil)
          go_simp
          refine hK.out _ _ ⟨cka hHeld.1, cka hHeld.2.1, cka hHeld.2.2.1, cka hHeld.2.2.2.1, cka hHeld.2.2.2.2.1, cka hHeld.2.2.2.2.2.1, cka hHeld.2.2.2.2.2.2.1, cka hHeld.2.2.2.2.2.2.2.1, cka hHeld.2.2.2.2.2.2.2.2.1, cka hHeld.2.2.2.2.2.2.2.2.2⟩ (fun hHeld => ?_)
          clear hK K
          (try simp only [List.setIfInBounds_toArray, List.set_cons_zero, List.set_cons_succ])
          obtain ⟨X28, g28, eY, eg⟩ : ∃ Y g, Y = X27.alloc (.cells #[.int .i64 0, .int .i64 0, .int .i64 0, .int .i64 0, .int .i64 0, .slice none 0 0] 29) ∧ g = X27.heap.size := ⟨_, _, rfl, rfl⟩
          rw [← eY, ← eg]
          rw [← eY] at hHeld
          have bc : Below X27.heap.size X27 X28 := by rw [eY]; exact (Below.refl _ _).alloc (Nat.le_refl _) _
          have k_n21 : X28.heap[g28]? = some (.cells #[.int .i64 0, .int .i64 0, .int .i64 0, .int .i64 0, .int .i64 0, .slice none 0 0] 29 (0, 0)) := by rw [eY, eg]; exact heap_alloc_new X27 _
          have lo_n21 : w.heap.size ≤ g28 := by rw [eg]; exact bw.size
          have ne_r_n21 : ¬ w.heap.size = g28 := ne_new k_r eg
          have ne_q_n21 : ¬ g_q = g28 := ne_new k_q eg
          have ne_p_n21 : ¬ g_p = g28 := ne_new k_p eg
          have ne_mp_n21 : ¬ g_mp = g28 := ne_new k_mp eg
          (try have na_rj1 := Rd.ne_new rj1 eg)
          (try have na_rj3 := Rd.ne_new rj3 eg)
          (try have na_r0 := RdSteps.ne_new r0 eg)
          (try have na_r1 := Rd.ne_new r1 eg)
          (try have na_r3 := Rd.ne_new r3 eg)
          (try have na_r4 := Rd.ne_new r4 eg)
          (try have na_r5 := Rd.ne_new r5 eg)
          replace k_r := bk bc k_r
          replace k_q := bk bc k_q
          replace k_p := bk bc k_p
          replace k_mp := bk bc k_mp
          replace bw := bst bc bw
          (try replace rj1 := (rj1.below bc).more bc.size)
          (try replace rj3 := (rj3.below bc).more bc.size)
          (try replace r0 := (r0.below bc).more bc.size)
          (try replace r1 := (r1.below bc).more bc.size)
          (try replace r3 := (r3.below bc).more bc.size)
          (try replace r4 := (r4.below bc).more bc.size)
          (try replace r5 := (r5.below bc).more bc.size)
          clear bc eY eg
          refine takx (i := 12) (D := 19) (v := .slice A5 k2 c5f) rfl rfl (by kernel_rfl) (by kernel_rfl) (by kernel_rfl) (fun _ _ _ h => h) (Or.inl ⟨by rfl, fun W hSw => by (try dsimp only at hSw); go_simp⟩) (by assumption) ?_
          (try simp only [List.setIfInBounds_toArray, List.set_cons_zero, List.set_cons_succ])
          refine takx (i := 13) (D := 20) (v := .slice A6f n6f c6f) rfl rfl (by kernel_rfl) (by kernel_rfl) (by kernel_rfl) (fun _ _ _ h => h) (Or.inl ⟨by rfl, fun W hSw => by (try dsimp only at hSw); go_simp⟩) (by assumption) ?_
          (try simp only [List.setIfInBounds_toArray, List.set_cons_zero, List.set_cons_succ])
          refine wpAnyH_ready (rs := [14]) (by kernel_rfl) (by simp) ?_
          refine (AllReadyH.cons rfl (fun K hK => ?_) AllReadyH.nil)
          have qq := q6c k_n21
          go_simp
          clear qq
          refine hK.out _ _ ⟨(cks ne_q_n21 (cks ne_q_n21 (cks ne_q_n21 (cks ne_q_n21 (cks ne_q_n21 (cks ne_q_n21 hHeld.1)))))), (cks ne_q_n21 (cks ne_q_n21 (cks ne_q_n21 (cks ne_q_n21 (cks ne_q_n21 (cks ne_q_n21 hHeld.2.1)))))), (cks ne_q_n21 (cks ne_q_n21 (cks ne_q_n21 (cks ne_q_n21 (cks ne_q_n21 (cks ne_q_n21 hHeld.2.2.1)))))), (cks ne_q_n21 (cks ne_q_n21 (cks ne_q_n21 (cks ne_q_n21 (cks ne_q_n21 (cks ne_q_n21 hHeld.2.2.2.1)))))), (cks ne_mp_n21 (cks ne_mp_n21 (cks ne_mp_n21 (cks ne_mp_n21 (cks ne_mp_n21 (cks ne_mp_n21 hHeld.2.2.2.2.1)))))), (cks ne_mp_n21 (cks ne_mp_n21 (cks ne_mp_n21 (cks ne_mp_n21 (cks ne_mp_n21 (cks ne_mp_n21 hHeld.2.2.2.2.2.1)))))), (cks ne_mp_n21 (cks ne_mp_n21 (cks ne_mp_n21 (cks ne_mp_n21 (cks ne_mp_n21 (cks ne_mp_n21 hHeld.2.2.2.2.2.2.1)))))), (cks ne_mp_n21 (cks ne_mp_n21 (cks ne_mp_n21 (cks ne_mp_n21 (cks ne_mp_n21 (cks ne_mp_n21 hHeld.2.2.2.2.2.2.2.1)))))), (cks ne_mp_n21 (cks ne_mp_n21 (cks ne_mp_n21 (cks ne_mp_n21 (cks ne_mp_n21 (cks ne_mp_n21 hHeld.2.2.2.2.2.2.2.2.1)))))), (cks ne_mp_n21 (cks ne_mp_n21 (cks ne_mp_n21 (cks ne_mp_n21 (cks ne_mp_n21 (cks ne_mp_n21 hHeld.2.2.2.2.2.2.2.2.2))))))⟩ (fun hHeld => ?_)
          clear hK K
          (try simp only [List.setIfInBounds_toArray, List.set_cons_zero, List.set_cons_succ])
          obtain ⟨X29, eY⟩ : ∃ Y, Y = ((((((X28.setCell ⟨g28, 0, none⟩ (.int .i64 a)).setCell ⟨g28, 1, none⟩ (.int .i64 b)).setCell ⟨g28, 2, none⟩ (.int .i64 c)).setCell ⟨g28, 3, none⟩ (.int .i64 d)).setCell ⟨g28, 4, none⟩ (.int .i64 (c - a))).setCell ⟨g28, 5, none⟩ (.slice A4 N c4f)) := ⟨_, rfl⟩
          rw [← eY] at hHeld ⊢
          replace k_r : X29.heap[w.heap.size]? = some (.cells #[.int .i64 a, .int .i64 b, .int .i64 c, .int .i64 d] 23 (0, 0)) := by rw [eY]; exact (bks ne_r_n21 (bks ne_r_n21 (bks ne_r_n21 (bks ne_r_n21 (bks ne_r_n21 (bks ne_r_n21 k_r))))))
          replace k_q : X29.heap[g_q]? = some (.cells #[.int .i64 a, .int .i64 b, .int .i64 c, .int .i64 d] 26 (0, 0)) := by rw [eY]; exact (bks ne_q_n21 (bks ne_q_n21 (bks ne_q_n21 (bks ne_q_n21 (bks ne_q_n21 (bks ne_q_n21 k_q))))))
          replace k_p : X29.heap[g_p]? = some (.cells #[.int .i64 a, .int .i64 b, .int .i64 c, .int .i64 d, .int .i64 (c - a), .slice Aj3 N cj3] 29 (0, 0)) := by rw [eY]; exact (bks ne_p_n21 (bks ne_p_n21 (bks ne_p_n21 (bks ne_p_n21 (bks ne_p_n21 (bks ne_p_n21 k_p))))))
          replace k_mp : X29.heap[g_mp]? = some (.cells #[.int .i64 a, .int .i64 b, .int .i64 c, .int .i64 d, .int .i64 (c - a), .slice A3 N c3f] 29 (0, 0)) := by rw [eY]; exact (bks ne_mp_n21 (bks ne_mp_n21 (bks ne_mp_n21 (bks ne_mp_n21 (bks ne_mp_n21 (bks ne_mp_n21 k_mp))))))
          replace bw : Below w.heap.size w X29 := by rw [eY]; exact (bss lo_n21 (bss lo_n21 (bss lo_n21 (bss lo_n21 (bss lo_n21 (bss lo_n21 bw))))))
          replace k_n21 : X29.heap[g28]? = some (.cells #[.int .i64 a, .int .i64 b, .int .i64 c, .int .i64 d, .int .i64 (c - a), .slice A4 N c4f] 29 (0, 0)) := by rw [eY]; exact q6s k_n21
          (try replace rj1 := Rd.sized (W := X29) (Rd.sset na_rj1 (Rd.sset na_rj1 (Rd.sset na_rj1 (Rd.sset na_rj1 (Rd.sset na_rj1 (Rd.sset na_rj1 rj1)))))) eY)
          (try replace rj3 := Rd.sized (W := X29) (Rd.sset na_rj3 (Rd.sset na_rj3 (Rd.sset na_rj3 (Rd.sset na_rj3 (Rd.sset na_rj3 (Rd.sset na_rj3 rj3)))))) eY)
          (try replace r0 := RdSteps.sized (W := X29) (RdSteps.sset na_r0 (RdSteps.sset na_r0 (RdSteps.sset na_r0 (RdSteps.sset na_r0 (RdSteps.sset na_r0 (RdSteps.sset na_r0 r0)))))) eY)
          (try replace r1 := Rd.sized (W := X29) (Rd.sset na_r1 (Rd.sset na_r1 (Rd.sset na_r1 (Rd.sset na_r1 (Rd.sset na_r1 (Rd.sset na_r1 r1)))))) eY)
          (try replace r3 := Rd.sized (W := X29) (Rd.sset na_r3 (Rd.sset na_r3 (Rd.sset na_r3 (Rd.sset na_r3 (Rd.sset na_r3 (Rd.sset na_r3 r3)))))) eY)
          (try replace r4 := Rd.sized (W := X29) (Rd.sset na_r4 (Rd.sset na_r4 (Rd.sset na_r4 (Rd.sset na_r4 (Rd.sset na_r4 (Rd.sset na_r4 r4)))))) eY)
          (try replace r5 := Rd.sized (W := X29) (Rd.sset na_r5 (Rd.sset na_r5 (Rd.sset na_r5 (Rd.sset na_r5 (Rd.sset na_r5 (Rd.sset na_r5 r5)))))) eY)
          clear eY
          refine wpAnyH_done (by kernel_rfl) ?_ _
          go_wp2_with fail
          go_meet
          exact ⟨_, A5, c5f, A6f, n6f, c6f, A4, c4f, rfl, rfl, rfl, k_n21, k_r, k_q, k_p, k_mp, rj1, rj3, r1, r4, r5, bw⟩
        · go_simp
          refine hK.out _ _ ⟨cka hHeld.1, cka hHeld.2.1, cka hHeld.2.2.1, cka hHeld.2.2.2.1, cka hHeld.2.2.2.2.1, cka hHeld.2.2.2.2.2.1, cka hHeld.2.2.2.2.2.2.1, cka hHeld.2.2.2.2.2.2.2.1, cka hHeld.2.2.2.2.2.2.2.2.1, cka hHeld.2.2.2.2.2.2.2.2.2⟩ (fun hHeld => ?_)
          clear hK K
          (try simp only [List.setIfInBounds_toArray, List.set_cons_zero, List.set_cons_succ])
          obtain ⟨X30, g30, eY, eg⟩ : ∃ Y g, Y = X26.alloc (.cells #[.int .i64 0, .int .i64 0, .int .i64 0, .int .i64 0, .int .i64 0, .slice none 0 0] 29) ∧ g = X26.heap.size := ⟨_, _, rfl, rfl⟩
          rw [← eY, ← eg]
          rw [← eY] at hHeld
          have bc : Below X26.heap.size X26 X30 := by rw [eY]; exact (Below.refl _ _).alloc (Nat.le_refl _) _
          have k_n21 : X30.heap[g30]? = some (.cells #[.int .i64 0, .int .i64 0, .int .i64 0, .int .i64 0, .int .i64 0, .slice none 0 0] 29 (0, 0)) := by rw [eY, eg]; exact heap_alloc_new X26 _
          have lo_n21 : w.heap.size ≤ g30 := by rw [eg]; exact bw.size
          have ne_r_n21 : ¬ w.heap.size = g30 := ne_new k_r eg
          have ne_q_n21 : ¬ g_q = g30 := ne_new k_q eg
          have ne_p_n21 : ¬ g_p = g30 := ne_new k_p eg
          have ne_mp_n21 : ¬ g_mp = g30 := ne_new k_mp eg
          (try have na_rj1 := Rd.ne_new rj1 eg)
          (try have na_rj3 := Rd.ne_new rj3 eg)
          (try have na_r0 := RdSteps.ne_new r0 eg)
          (try have na_r1 := Rd.ne_new r1 eg)
          (try have na_r3 := Rd.ne_new r3 eg)
          (try have na_r4 := Rd.ne_new r4 eg)
          (try have na_r5 := Rd.ne_new r5 eg)
          replace k_r := bk bc k_r
          replace k_q := bk bc k_q
          replace k_p := bk bc k_p
          replace k_mp := bk bc k_mp
          replace bw := bst bc bw
          (try replace rj1 := (rj1.below bc).more bc.size)
          (try replace rj3 := (rj3.below bc).more bc.size)
          (try replace r0 := (r0.below bc).more bc.size)
          (try replace r1 := (r1.below bc).more bc.size)
          (try replace r3 := (r3.below bc).more bc.size)
          (try replace r4 := (r4.below bc).more bc.size)
          (try replace r5 := (r5.below bc).more bc.size)
          clear bc eY eg
          refine wpAnyH_ready (rs := [6]) (by kernel_rfl) (by simp) ?_
          refine (AllReadyH.cons rfl (fun K hK => ?_) AllReadyH.nil)
          go_simp
          refine ((grayRun_any a b c d N h3 h4 h5 h6 HN.out N c3f A3 b1 (m - kn) (c0 - kn) A2 (ss.drop kn) _ r3 (r0.drop hkm hA2)).mono (fun _ _ h => h.lite (k := k2) (cs := l2) (bs := b2) HE2.out.1 HE2.out.2 HK2.out)).mono ?_
          rintro e X31 ⟨A5, c5f, A6f, n6f, c6f, A4, c4f, rfl, r5, r4, lo5, lo4, bc⟩
          refine hK.out _ _ ⟨ck bc hHeld.1, ck bc hHeld.2.1, ck bc hHeld.2.2.1, ck bc hHeld.2.2.2.1, ck bc hHeld.2.2.2.2.1, ck bc hHeld.2.2.2.2.2.1, ck bc hHeld.2.2.2.2.2.2.1, ck bc hHeld.2.2.2.2.2.2.2.1, ck bc hHeld.2.2.2.2.2.2.2.2.1, ck bc hHeld.2.2.2.2.2.2.2.2.2⟩ (fun hHeld => ?_)
          clear hK K
          (try simp only [List.setIfInBounds_toArray, List.set_cons_zero, List.set_cons_succ])
          have na_r4 := lo_ne (n := N) lo4 k_n21
          have na_r5 := lo_ne (n := k2) lo5 k_n21
          replace k_r := bk bc k_r
          replace k_q := bk bc k_q
          replace k_p := bk bc k_p
          replace k_mp := bk bc k_mp
          replace k_n21 := bk bc k_n21
          replace bw := bst bc bw
          (try replace rj1 := (rj1.below bc).more bc.size)
          (try replace rj3 := (rj3.below bc).more bc.size)
          (try replace r0 := (r0.below bc).more bc.size)
          (try replace r1 := (r1.below bc).more bc.size)
          (try replace r3 := (r3.below bc).more bc.size)
          (try replace r4 := (r4.below bc).more bc.size)
          (try replace r5 := (r5.below bc).more bc.size)
          clear bc
          refine takx (i := 7) (D := 69) (v := .tuple #[.slice A5 k2 c5f, .slice A6f n6f c6f, .agg #[.int .i64 a, .int .i64 b, .int .i64 c, .int .i64 d, .int .i64 (c - a), .slice A4 N c4f]]) rfl rfl (by kernel_rfl) (by kernel_rfl) (by kernel_rfl) (fun _ _ _ h => h) (Or.inl ⟨by rfl, fun W hSw => by (try dsimp only at hSw); go_simp⟩) (by assumption) ?_
          (try simp only [List.setIfInBounds_toArray, List.set_cons_zero, List.set_cons_succ])
          refine takx (i := 8) (D := 77) (v := .slice A5 k2 c5f) rfl rfl (by kernel_rfl) (by kernel_rfl) (by kernel_rfl) (fun _ _ _ h => h) (Or.inl ⟨by rfl, fun W hSw => by (try dsimp only at hSw); go_simp⟩) (by assumption) ?_
          (try simp only [List.setIfInBounds_toArray, List.set_cons_zero, List.set_cons_succ])
          refine takx (i := 9) (D := 78) (v := .slice A6f n6f c6f) rfl rfl (by kernel_rfl) (by kernel_rfl) (by kernel_rfl) (fun _ _ _ h => h) (Or.inl ⟨by rfl, fun W hSw => by (try dsimp only at hSw); go_simp⟩) (by assumption) ?_
          (try simp only [List.setIfInBounds_toArray, List.set_cons_zero, List.set_cons_succ])
          refine takx (i := 10) (D := 79) (v := .agg #[.int .i64 a, .int .i64 b, .int .i64 c, .int .i64 d, .int .i64 (c - a), .slice A4 N c4f]) rfl rfl (by kernel_rfl) (by kernel_rfl) (by kernel_rfl) (fun _ _ _ h => h) (Or.inl ⟨by rfl, fun W hSw => by (try dsimp only at hSw); go_simp⟩) (by assumption) ?_
          (try simp only [List.setIfInBounds_toArray, List.set_cons_zero, List.set_cons_succ])
          refine takx (i := 12) (D := 19) (v := .slice A5 k2 c5f) rfl rfl (by kernel_rfl) (by kernel_rfl) (by kernel_rfl) (fun _ _ _ h => h) (Or.inl ⟨by rfl, fun W hSw => by (try dsimp only at hSw); go_simp⟩) (by assumption) ?_
          (try simp only [List.setIfInBounds_toArray, List.set_cons_zero, List.set_cons_succ])
          refine takx (i := 13) (D := 20) (v := .slice A6f n6f c6f) rfl rfl (by kernel_rfl) (by kernel_rfl) (by kernel_rfl) (fun _ _ _ h => h) (Or.inl ⟨by rfl, fun W hSw => by (try dsimp only at hSw); go_simp⟩) (by assumption) ?_
          (try simp only [List.setIfInBounds_toArray, List.set_cons_zero, List.set_cons_succ])
          refine wpAnyH_ready (rs := [14]) (by kernel_rfl) (by simp) ?_
          refine (AllReadyH.cons rfl (fun K hK => ?_) AllReadyH.nil)
          have qq := q6c k_n21
          go_simp
          clear qq
          refine hK.out _ _ ⟨(cks ne_q_n21 (cks ne_q_n21 (cks ne_q_n21 (cks ne_q_n21 (cks ne_q_n21 (cks ne_q_n21 hHeld.1)))))), (cks ne_q_n21 (cks ne_q_n21 (cks ne_q_n21 (cks ne_q_n21 (cks ne_q_n21 (cks ne_q_n21 hHeld.2.1)))))), (cks ne_q_n21 (cks ne_q_n21 (cks ne_q_n21 (cks ne_q_n21 (cks ne_q_n21 (cks ne_q_n21 hHeld.2.2.1)))))), (cks ne_q_n21 (cks ne_q_n21 (cks ne_q_n21 (cks ne_q_n21 (cks ne_q_n21 (cks ne_q_n21 hHeld.2.2.2.1)))))), (cks ne_mp_n21 (cks ne_mp_n21 (cks ne_mp_n21 (cks ne_mp_n21 (cks ne_mp_n21 (cks ne_mp_n21 hHeld.2.2.2.2.1)))))), (cks ne_mp_n21 (cks ne_mp_n21 (cks ne_mp_n21 (cks ne_mp_n21 (cks ne_mp_n21 (cks ne_mp_n21 hHeld.2.2.2.2.2.1)))))), (cks ne_mp_n21 (cks ne_mp_n21 (cks ne_mp_n21 (cks ne_mp_n21 (cks ne_mp_n21 (cks ne_mp_n21 hHeld.2.2.2.2.2.2.1)))))), (cks ne_mp_n21 (cks ne_mp_n21 (cks ne_mp_n21 (cks ne_mp_n21 (cks ne_mp_n21 (cks ne_mp_n21 hHeld.2.2.2.2.2.2.2.1)))))), (cks ne_mp_n21 (cks ne_mp_n21 (cks ne_mp_n21 (cks ne_mp_n21 (cks ne_mp_n21 (cks ne_mp_n21 hHeld.2.2.2.2.2.2.2.2.1)))))), (cks ne_mp_n21 (cks ne_mp_n21 (cks ne_mp_n21 (cks ne_mp_n21 (cks ne_mp_n21 (cks ne_mp_n21 hHeld.2.2.2.2.2.2.2.2.2))))))⟩ (fun hHeld => ?_)
          clear hK K
          (try simp only [List.setIfInBounds_toArray, List.set_cons_zero, List.set_cons_succ])
          obtain ⟨X32, eY⟩ : ∃ Y, Y = ((((((X31.setCell ⟨g30, 0, none⟩ (.int .i64 a)).setCell ⟨g30, 1, none⟩ (.int .i64 b)).setCell ⟨g30, 2, none⟩ (.int .i64 c)).setCell ⟨g30, 3, none⟩ (.int .i64 d)).setCell ⟨g30, 4, none⟩ (.int .i64 (c - a))).setCell ⟨g30, 5, none⟩ (.slice A4 N c4f)) := ⟨_, rfl⟩
          rw [← eY] at hHeld ⊢
          replace k_r : X32.heap[w.heap.size]? = some (.cells #[.int .i64 a, .int .i64 b, .int .i64 c, .int .i64 d] 23 (0, 0)) := by rw [eY]; exact (bks ne_r_n21 (bks ne_r_n21 (bks ne_r_n21 (bks ne_r_n21 (bks ne_r_n21 (bks ne_r_n21 k_r))))))
          replace k_q : X32.heap[g_q]? = some (.cells #[.int .i64 a, .int .i64 b, .int .i64 c, .int .i64 d] 26 (0, 0)) := by rw [eY]; exact (bks ne_q_n21 (bks ne_q_n21 (bks ne_q_n21 (bks ne_q_n21 (bks ne_q_n21 (bks ne_q_n21 k_q))))))
          replace k_p : X32.heap[g_p]? = some (.cells #[.int .i64 a, .int .i64 b, .int .i64 c, .int .i64 d, .int .i64 (c - a), .slice Aj3 N cj3] 29 (0, 0)) := by rw [eY]; exact (bks ne_p_n21 (bks ne_p_n21 (bks ne_p_n21 (bks ne_p_n21 (bks ne_p_n21 (bks ne_p_n21 k_p))))))
          replace k_mp : X32.heap[g_mp]? = some (.cells #[.int .i64 a, .int .i64 b, .int .i64 c, .int .i64 d, .int .i64 (c - a), .slice A3 N c3f] 29 (0, 0)) := by rw [eY]; exact (bks ne_mp_n21 (bks ne_mp_n21 (bks ne_mp_n21 (bks ne_mp_n21 (bks ne_mp_n21 (bks ne_mp_n21 k_mp))))))
          replace bw : Below w.heap.size w X32 := by rw [eY]; exact (bss lo_n21 (bss lo_n21 (bss lo_n21 (bss lo_n21 (bss lo_n21 (bss lo_n21 bw))))))
          replace k_n21 : X32.heap[g30]? = some (.cells #[.int .i64 a, .int .i64 b, .int .i64 c, .int .i64 d, .int .i64 (c - a), .slice A4 N c4f] 29 (0, 0)) := by rw [eY]; exact q6s k_n21
          (try replace rj1 := Rd.sized (W := X32) (Rd.sset na_rj1 (Rd.sset na_rj1 (Rd.sset na_rj1 (Rd.sset na_rj1 (Rd.sset na_rj1 (Rd.sset na_rj1 rj1)))))) eY)
          (try replace rj3 := Rd.sized (W := X32) (Rd.sset na_rj3 (Rd.sset na_rj3 (Rd.sset na_rj3 (Rd.sset na_rj3 (Rd.sset na_rj3 (Rd.sset na_rj3 rj3)))))) eY)
          (try replace r0 := RdSteps.sized (W := X32) (RdSteps.sset na_r0 (RdSteps.sset na_r0 (RdSteps.sset na_r0 (RdSteps.sset na_r0 (RdSteps.sset na_r0 (RdSteps.sset na_r0 r0)))))) eY)
          (try replace r1 := Rd.sized (W := X32) (Rd.sset na_r1 (Rd.sset na_r1 (Rd.sset na_r1 (Rd.sset na_r1 (Rd.sset na_r1 (Rd.sset na_r1 r1)))))) eY)
          (try replace r3 := Rd.sized (W := X32) (Rd.sset na_r3 (Rd.sset na_r3 (Rd.sset na_r3 (Rd.sset na_r3 (Rd.sset na_r3 (Rd.sset na_r3 r3)))))) eY)
          (try replace r4 := Rd.sized (W := X32) (Rd.sset na_r4 (Rd.sset na_r4 (Rd.sset na_r4 (Rd.sset na_r4 (Rd.sset na_r4 (Rd.sset na_r4 r4)))))) eY)
          (try replace r5 := Rd.sized (W := X32) (Rd.sset na_r5 (Rd.sset na_r5 (Rd.sset na_r5 (Rd.sset na_r5 (Rd.sset na_r5 (Rd.sset na_r5 r5)))))) eY)
          clear eY
          refine wpAnyH_done (by kernel_rfl) ?_ _
          go_wp2_with fail
          go_meet
          exact ⟨_, A5, c5f, A6f, n6f, c6f, A4, c4f, rfl, rfl, rfl, k_n21, k_r, k_q, k_p, k_mp, rj1, rj3, r1, r4, r5, bw⟩
      case rest =>
        clear k_r k_q k_p k_mp bw
        obtain ⟨g_o, A5, c5f, A6f, n6f, c6f, A4, c4f, rfl, rfl, rfl, k_o, k_r, k_q, k_p, k_mp, RJ1, RJ3, R1, R4, R5, BW⟩ := hcut
        have bw := BW.out
        clear BW
        clear rj1 rj3 r0 r1 r3
        have rj1 := RJ1.out
        have rj3 := RJ3.out
        have r1 := R1.out
        have r4 := R4.out
        have r5 := R5.out
        clear RJ1 RJ3 R1 R4 R5
        have hrs := rect_same a b c d
        have q_q := q4c k_q
        have q_p := q6c k_p
        have q_o := q6c k_o
        go_wp2_with fail
        refine (samePic_true _ _ _ _ _ _ _ _ _ _ _ _ rj3 r4).mono ?_
        rintro e Y9 ⟨rfl, bc⟩
        clear q_q q_p q_o rj3 r4 k_r k_q k_p k_mp k_o
        replace bw := bst bc bw
        replace rj1 := (rj1.below bc).more bc.size
        replace r1 := (r1.below bc).more bc.size
        replace r5 := (r5.below bc).more bc.size
        clear bc
        have z1 := r1.2.1
        have zj := rj1.2.1
        obtain ⟨i0, hi, hz0, hz1, hz2⟩ := info_parts (show (Try.prog.info? 3).map (fun i => (i.zero, i.size, i.bytes)) = some (some (.int .i64 0), 1, 8) from by kernel_rfl)
        go_wp2_with (first
          | (at_builtin; refine wpList_appg (by rfl) _ _ 27 (by rfl) Y9.heap.size 3 i0 (.int .i64 0) 1 8 Try.underlying27 hi hz0 hz1 hz2 rfl (by decide) (.slice none 0 0) 0 [] (by rfl) (World.ownsRow_nil _ _ _ _) A1 k1 c1f (l1.map (Value.int .i64)) (by rfl) ?c0 ?c1 ?c2 ?c3 ?c4 ?c5 ?_))
        case c0 => exact (by rw [List.length_map, r1.1, Nat.mul_one])
        case c1 => exact r1.src'
        case c2 => exact (fun u hu => by obtain ⟨v, _, rfl⟩ := List.mem_map.1 hu; rfl)
        case c3 => unfold maxLen; omega
        case c4 => omega
        case c5 => exact Nat.le_refl _
        intro v' Y10 hown1 hgrow _
        have bb : Below Y9.heap.size Y9 Y10 := (Below.refl _ _).grown hgrow (Nat.le_refl _) (by intro j hj; cases hj)
        (try simp only [Nat.zero_add, List.nil_append] at hown1)
        obtain ⟨V1, d1, rfl⟩ := own_slice hown1
        clear hgrow
        go_wp2_with (first
          | (at_builtin; refine wpList_appg (by rfl) _ _ 27 (by rfl) Y9.heap.size 3 i0 (.int .i64 0) 1 8 Try.underlying27 hi hz0 hz1 hz2 rfl (by decide) (.slice V1 k1 d1) k1 (l1.map (Value.int .i64)) (by rfl) hown1 A5 k2 c5f (l2.map (Value.int .i64)) (by rfl) ?c0 ?c1 ?c2 ?c3 ?c4 ?c5 ?_))
        case c0 => exact (by rw [List.length_map, r5.1, Nat.mul_one])
        case c1 => exact (r5.below bb).src'
        case c2 => exact (fun u hu => by obtain ⟨v, _, rfl⟩ := List.mem_map.1 hu; rfl)
        case c3 => unfold maxLen; omega
        case c4 => omega
        case c5 => exact bb.size
        intro v'' Y11 hown2 hgrow _
        have bc : Below Y9.heap.size Y9 Y11 := bb.grown hgrow bb.size (by intro j hj; exact (hown1.lt j hj).1)
        rw [← List.map_append] at hown2
        obtain ⟨V2, d2, e2, r9, _⟩ := Rd.of_own hown2 zj rj1.2.2.1
        obtain ⟨V3, d3, rfl⟩ := own_slice hown2
        simp only [Value.slice.injEq, true_and] at e2
        obtain ⟨rfl, rfl⟩ := e2
        replace bw := bst bc bw
        replace rj1 := (rj1.below bc).more bc.size
        clear hgrow bc bb hown1 hown2 r1 r5 hi hz0 hz1 hz2
        go_wp2_with fail
        refine (same_b _ _ _ _ _ (l1 ++ l2) _ rj1 r9).mono ?_
        rintro e Y12 ⟨rfl, bc⟩
        replace bw := bst bc bw
        clear bc rj1 r9
        go_wp2
        go_ret
        first | exact ⟨rfl, bw⟩ | exact ⟨trivial, bw⟩

end Go.Proofs.Ytpijljokcoocpaa

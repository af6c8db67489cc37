/-
  The walk of the law FnPaletteMore. No condition.
-/
import Derived.Test.YtbhccckfooobcaaPM0
namespace Go.Proofs.Ytbhccckfooobcaa
open Go.ChangeShapes Go.WideShapes Go.ChangeAt Go.RowKit
set_option linter.unusedVariables false
set_option linter.unusedSimpArgs false

set_option maxRecDepth 100000 in
set_option maxHeartbeats 4000000 in
theorem fnPaletteMore_walk (w : World) (A : Option Addr) (n cp : Nat) (qs : List Q4) (hr : RdQuads w w.heap.size A n qs) (A2 : Option Addr) (m cp2 : Nat) (rs : List Q4) (hr2 : RdQuads w w.heap.size A2 m rs) (q : Q4) (hq : q.ok) (hsum : n + m ≤ 1048576) :
    Calls Try.prog 9 #[.slice A n cp, .slice A2 m cp2, q.val] w fun e w' => e = .returned (.bool true) ∧ Below w.heap.size w w' := by
  show Calls Try.prog 9 #[.slice A n cp, .slice A2 m cp2, .agg #[.int .i64 q.a, .int .i64 q.b, .int .i64 q.c, .int .i64 q.d]] w _
  have HR := Lib.hid hr
  have HR2 := Lib.hid hr2
  have HQ := Lib.hid hq
  have hqd : I64 q.d := hq.2.2.2
  clear hr hr2 hq
  have hcd := fun a b c d W => col_diff a b c d W
  by_cases h0 : 0 < n
  case neg =>
    have hz : ((n : Int) == 0) = true := by simp; omega
    go_enter Try.func9, Try.ntmps9
    go_wp2
    go_ret
    exact ⟨rfl, bsa (Below.refl _ _)⟩
  have hz : ((n : Int) == 0) = false := by simp; omega
  obtain ⟨b, off, rfl, hbw, _⟩ := HR.out.2.2.2 h0
  by_cases hO : Opq qs
  case neg =>
    have HO := Lib.hid hO
    clear hO
    go_enter Try.func9, Try.ntmps9
    have b0 : Below w.heap.size w (w.alloc (.cells #[.int .i64 q.a, .int .i64 q.b, .int .i64 q.c, .int .i64 q.d] 23)) := bsa (Below.refl _ _)
    go_wp2_with fail
    refine (opq_no n cp (some ⟨b, off, none⟩) qs _ ((HR.out.below b0).more b0.size) HO.out).mono ?_
    rintro e w1 ⟨rfl, bc⟩
    have bw := bs bc b0
    have k_c := bk bc (heap_alloc_new w _)
    clear bc b0
    go_wp2
    go_ret
    exact ⟨rfl, bw⟩
  have HO := Lib.hid hO
  clear hO
  by_cases hO2 : Opq rs
  case neg =>
    have HO2 := Lib.hid hO2
    clear hO2
    go_enter Try.func9, Try.ntmps9
    have b0 : Below w.heap.size w (w.alloc (.cells #[.int .i64 q.a, .int .i64 q.b, .int .i64 q.c, .int .i64 q.d] 23)) := bsa (Below.refl _ _)
    go_wp2_with fail
    refine (opq_yes n cp (some ⟨b, off, none⟩) qs _ ((HR.out.below b0).more b0.size) HO.out).mono ?_
    rintro e w1 ⟨rfl, bc⟩
    have bw := bs bc b0
    have k_c := bk bc (heap_alloc_new w _)
    clear bc b0
    go_wp2_with fail
    refine (opq_no m cp2 A2 rs _ ((HR2.out.below bw).more bw.size) HO2.out).mono ?_
    rintro e w2 ⟨rfl, bc⟩
    replace bw := bs bc bw
    replace k_c := bk bc k_c
    clear bc
    go_wp2
    go_ret
    exact ⟨rfl, bw⟩
  have HO2 := Lib.hid hO2
  clear hO2
  by_cases h255 : q.d % 256 = 255
  case neg =>
    have h5 : (q.d % 256 != 255) = true := by simp [h255]
    clear h255
    go_enter Try.func9, Try.ntmps9
    have b0 : Below w.heap.size w (w.alloc (.cells #[.int .i64 q.a, .int .i64 q.b, .int .i64 q.c, .int .i64 q.d] 23)) := bsa (Below.refl _ _)
    go_wp2_with fail
    refine (opq_yes n cp (some ⟨b, off, none⟩) qs _ ((HR.out.below b0).more b0.size) HO.out).mono ?_
    rintro e w1 ⟨rfl, bc⟩
    have bw := bs bc b0
    have k_c := bk bc (heap_alloc_new w _)
    clear bc b0
    go_wp2_with fail
    refine (opq_yes m cp2 A2 rs _ ((HR2.out.below bw).more bw.size) HO2.out).mono ?_
    rintro e w2 ⟨rfl, bc⟩
    replace bw := bs bc bw
    replace k_c := bk bc k_c
    clear bc
    obtain ⟨⟨_, _, _, qd⟩, _⟩ := q4c k_c
    go_wp2_with fail
    refine (low_any q.d hqd _).mono ?_
    rintro e _ ⟨rfl, rfl⟩
    clear qd
    go_wp2
    go_ret
    exact ⟨rfl, bw⟩
  have h5 : (q.d % 256 != 255) = false := by simp [h255]
  have H5 := Lib.hid h255
  clear h255
  go_enter Try.func9, Try.ntmps9
  have b0 : Below w.heap.size w (w.alloc (.cells #[.int .i64 q.a, .int .i64 q.b, .int .i64 q.c, .int .i64 q.d] 23)) := bsa (Below.refl _ _)
  go_wp2_with fail
  refine (opq_yes n cp (some ⟨b, off, none⟩) qs _ ((HR.out.below b0).more b0.size) HO.out).mono ?_
  rintro e w1 ⟨rfl, bc⟩
  have bw := bs bc b0
  have k_c := bk bc (heap_alloc_new w _)
  clear bc b0
  go_wp2_with fail
  refine (opq_yes m cp2 A2 rs _ ((HR2.out.below bw).more bw.size) HO2.out).mono ?_
  rintro e w2 ⟨rfl, bc⟩
  replace bw := bs bc bw
  replace k_c := bk bc k_c
  clear bc
  obtain ⟨⟨_, _, _, qd⟩, _⟩ := q4c k_c
  go_wp2_with fail
  refine (low_any q.d hqd _).mono ?_
  rintro e _ ⟨rfl, rfl⟩
  clear qd
  obtain ⟨i0, hi, hz0, hz1, hz2⟩ := info_parts (show (Try.prog.info? 23).map (fun i => (i.zero, i.size, i.bytes)) = some (some (.agg #[.int .i64 0, .int .i64 0, .int .i64 0, .int .i64 0]), 4, 32) from by kernel_rfl)
  have r1w := (HR.out.below bw).more bw.size
  have r2w := (HR2.out.below bw).more bw.size
  obtain ⟨nm, hnm⟩ : ∃ k, k = n + m := ⟨_, rfl⟩
  go_wp2_with (first
    | (at_builtin; refine wpList_app rfl _ _ 30 rfl w2.heap.size 23 i0 (.agg #[.int .i64 0, .int .i64 0, .int .i64 0, .int .i64 0]) 4 32 Try.underlying30 hi hz0 hz1 hz2 rfl (by decide) (.slice none 0 0) 0 [] rfl (World.ownsRow_nil _ _ _ _) (some ⟨b, off, none⟩) n cp (flat qs) rfl ?x0 ?x1 ?x2 ?x3 ?x4 ?x5 ?_))
  (try case x0 => (exact (by rw [flat_length, HR.out.1])))
  (try case x1 => (exact (show SrcC _ _ _ (flat qs) from r1w.src')))
  (try case x2 => (exact flat_one _))
  (try case x3 => (unfold maxLen; omega))
  (try case x4 => (omega))
  (try case x5 => (exact Nat.le_refl _))
  intro v' w3 hown1 hgrow _
  have bb : Below w2.heap.size w2 w3 := (Below.refl _ _).grown hgrow (Nat.le_refl _) (by intro j hj; cases hj)
  (try simp only [Nat.zero_add, List.nil_append] at hown1)
  obtain ⟨V1, d1, rfl⟩ := own_slc hown1
  clear hgrow
  have r2b := r2w.below bb
  go_wp2_with (first
    | (at_builtin; refine wpList_app rfl _ _ 30 rfl w2.heap.size 23 i0 (.agg #[.int .i64 0, .int .i64 0, .int .i64 0, .int .i64 0]) 4 32 Try.underlying30 hi hz0 hz1 hz2 rfl (by decide) (.slice V1 n d1) n (flat qs) rfl hown1 A2 m cp2 (flat rs) rfl ?y0 ?y1 ?y2 ?y3 ?y4 ?y5 ?_))
  (try case y0 => (exact (by rw [flat_length, HR2.out.1])))
  (try case y1 => (exact (show SrcC _ _ _ (flat rs) from r2b.src')))
  (try case y2 => (exact flat_one _))
  (try case y3 => (unfold maxLen; omega))
  (try case y4 => (omega))
  (try case y5 => (exact bb.size))
  intro v'' w4 hown2 hgrow _
  have bc : Below w2.heap.size w2 w4 := bb.grown hgrow bb.size (by intro j hj; exact (hown1.lt j hj).1)
  rw [← flat_append, ← hnm] at hown2
  obtain ⟨AJ, cJ, eJ, rJ, _⟩ := RdQuads.of_own hown2 (by omega) (fun x hx => by rcases List.mem_append.1 hx with hx | hx; exact HR.out.2.2.1 x hx; exact HR2.out.2.2.1 x hx)
  subst eJ
  have hnm0 : 0 < nm := by omega
  clear hnm
  obtain ⟨bj, oj, rfl, _, _⟩ := rJ.2.2.2 hnm0
  replace bw := bs bc bw
  replace k_c := bk bc k_c
  have HOJ := Lib.hid (opq_app HO.out HO2.out)
  clear hgrow bc bb hown1 hown2 hi hz0 hz1 hz2 r1w r2w r2b
  go_upto_region 4 with fail
  refine wp_region_held_drew (S := fun w' => w'.cell? ⟨w.heap.size, 0, none⟩ = some (.int .i64 q.a) ∧ w'.cell? ⟨w.heap.size, 1, none⟩ = some (.int .i64 q.b) ∧ w'.cell? ⟨w.heap.size, 2, none⟩ = some (.int .i64 q.c) ∧ w'.cell? ⟨w.heap.size, 3, none⟩ = some (.int .i64 q.d)) (by kernel_rfl) ⟨(q4c k_c).1.1, (q4c k_c).1.2.1, (q4c k_c).1.2.2.1, (q4c k_c).1.2.2.2⟩ ?_
  intro hHeld
  obtain ⟨X0, eX, bc⟩ : ∃ X, X = w4.drew ∧ Below w4.heap.size w4 X := ⟨_, rfl, (Below.refl _ _).drew⟩
  rw [← eX] at hHeld ⊢
  replace k_c := bk bc k_c
  replace bw := bs bc bw
  (try replace r1 := (r1.below bc).more bc.size)
  (try replace r7 := (r7.below bc).more bc.size)
  (try replace rJ := (rJ.below bc).more bc.size)
  clear eX bc
  refine takx (i := 0) (D := 35) (v := .slice (some ⟨b, off, none⟩) n cp) rfl rfl (by kernel_rfl) (by kernel_rfl) (by kernel_rfl) (fun _ _ _ h => h) (Or.inl ⟨by rfl, fun W hSw => by (try dsimp only at hSw); go_simp⟩) (by assumption) ?_
  (try simp only [List.setIfInBounds_toArray, List.set_cons_zero, List.set_cons_succ])
  refine takx (i := 2) (D := 37) (v := .agg #[.int .i64 q.a, .int .i64 q.b, .int .i64 q.c, .int .i64 q.d]) rfl rfl (by kernel_rfl) (by kernel_rfl) (by kernel_rfl) (fun _ _ _ h => h) (Or.inl ⟨by rfl, fun W hSw => by (try dsimp only at hSw); go_simp⟩) (by assumption) ?_
  (try simp only [List.setIfInBounds_toArray, List.set_cons_zero, List.set_cons_succ])
  refine takx (i := 5) (D := 40) (v := .slice (some ⟨bj, oj, none⟩) nm cJ) rfl rfl (by kernel_rfl) (by kernel_rfl) (by kernel_rfl) (fun _ _ _ h => h) (Or.inl ⟨by rfl, fun W hSw => by (try dsimp only at hSw); go_simp⟩) (by assumption) ?_
  (try simp only [List.setIfInBounds_toArray, List.set_cons_zero, List.set_cons_succ])
  refine takx (i := 7) (D := 42) (v := .agg #[.int .i64 q.a, .int .i64 q.b, .int .i64 q.c, .int .i64 q.d]) rfl rfl (by kernel_rfl) (by kernel_rfl) (by kernel_rfl) (fun _ _ _ h => h) (Or.inl ⟨by rfl, fun W hSw => by (try dsimp only at hSw); go_simp⟩) (by assumption) ?_
  (try simp only [List.setIfInBounds_toArray, List.set_cons_zero, List.set_cons_succ])
  refine wpAnyH_ready (rs := [1]) (by kernel_rfl) (by simp) ?_
  refine (AllReadyH.cons rfl (fun K hK => ?_) AllReadyH.nil)
  go_simp
  refine (toColors_any n cp (some ⟨b, off, none⟩) qs _ ((HR.out.below bw).more bw.size)).mono ?_
  rintro e X1 ⟨A1, cp1, rfl, r1, lo1, bc⟩
  refine hK.out _ _ ⟨ck bc hHeld.1, ck bc hHeld.2.1, ck bc hHeld.2.2.1, ck bc hHeld.2.2.2⟩ (fun hHeld => ?_)
  clear hK K
  (try simp only [List.setIfInBounds_toArray, List.set_cons_zero, List.set_cons_succ])
  replace k_c := bk bc k_c
  replace bw := bs bc bw
  (try replace r1 := (r1.below bc).more bc.size)
  (try replace r7 := (r7.below bc).more bc.size)
  (try replace rJ := (rJ.below bc).more bc.size)
  clear bc
  refine wpAnyH_ready (rs := [3]) (by kernel_rfl) (by simp) ?_
  refine (AllReadyH.cons rfl (fun K hK => ?_) AllReadyH.nil)
  go_simp
  refine (toColor4 q.a q.b q.c q.d _).mono ?_
  rintro e X2 ⟨rfl, bc⟩
  refine hK.out _ _ ⟨ck bc hHeld.1, ck bc hHeld.2.1, ck bc hHeld.2.2.1, ck bc hHeld.2.2.2⟩ (fun hHeld => ?_)
  clear hK K
  (try simp only [List.setIfInBounds_toArray, List.set_cons_zero, List.set_cons_succ])
  replace k_c := bk bc k_c
  replace bw := bs bc bw
  (try replace r1 := (r1.below bc).more bc.size)
  (try replace r7 := (r7.below bc).more bc.size)
  (try replace rJ := (rJ.below bc).more bc.size)
  clear bc
  refine wpAnyH_ready (rs := [4]) (by kernel_rfl) (by simp) ?_
  refine (AllReadyH.cons rfl (fun K hK => ?_) AllReadyH.nil)
  go_simp
  refine (palIndex4 n cp1 A1 qs (q.a) (q.b) (q.c) (q.d) _ r1).mono ?_
  rintro e X3 ⟨i, rfl, hf0, bc⟩
  refine hK.out _ _ ⟨ck bc hHeld.1, ck bc hHeld.2.1, ck bc hHeld.2.2.1, ck bc hHeld.2.2.2⟩ (fun hHeld => ?_)
  clear hK K
  (try simp only [List.setIfInBounds_toArray, List.set_cons_zero, List.set_cons_succ])
  replace k_c := bk bc k_c
  replace bw := bs bc bw
  (try replace r1 := (r1.below bc).more bc.size)
  (try replace r7 := (r7.below bc).more bc.size)
  (try replace rJ := (rJ.below bc).more bc.size)
  have Fi := Lib.hid hf0
  clear hf0
  clear bc
  refine wpAnyH_ready (rs := [6]) (by kernel_rfl) (by simp) ?_
  refine (AllReadyH.cons rfl (fun K hK => ?_) AllReadyH.nil)
  go_simp
  refine (toColors_any nm cJ (some ⟨bj, oj, none⟩) (qs ++ rs) _ rJ).mono ?_
  rintro e X4 ⟨A7, cp7, rfl, r7, lo7, bc⟩
  refine hK.out _ _ ⟨ck bc hHeld.1, ck bc hHeld.2.1, ck bc hHeld.2.2.1, ck bc hHeld.2.2.2⟩ (fun hHeld => ?_)
  clear hK K
  (try simp only [List.setIfInBounds_toArray, List.set_cons_zero, List.set_cons_succ])
  replace k_c := bk bc k_c
  replace bw := bs bc bw
  (try replace r1 := (r1.below bc).more bc.size)
  (try replace r7 := (r7.below bc).more bc.size)
  (try replace rJ := (rJ.below bc).more bc.size)
  clear bc
  refine wpAnyH_ready (rs := [8]) (by kernel_rfl) (by simp) ?_
  refine (AllReadyH.cons rfl (fun K hK => ?_) AllReadyH.nil)
  go_simp
  refine (toColor4 q.a q.b q.c q.d _).mono ?_
  rintro e X5 ⟨rfl, bc⟩
  refine hK.out _ _ ⟨ck bc hHeld.1, ck bc hHeld.2.1, ck bc hHeld.2.2.1, ck bc hHeld.2.2.2⟩ (fun hHeld => ?_)
  clear hK K
  (try simp only [List.setIfInBounds_toArray, List.set_cons_zero, List.set_cons_succ])
  replace k_c := bk bc k_c
  replace bw := bs bc bw
  (try replace r1 := (r1.below bc).more bc.size)
  (try replace r7 := (r7.below bc).more bc.size)
  (try replace rJ := (rJ.below bc).more bc.size)
  clear bc
  refine wpAnyH_ready (rs := [9]) (by kernel_rfl) (by simp) ?_
  refine (AllReadyH.cons rfl (fun K hK => ?_) AllReadyH.nil)
  go_simp
  refine (palIndex4 nm cp7 A7 (qs ++ rs) (q.a) (q.b) (q.c) (q.d) _ r7).mono ?_
  rintro e X6 ⟨j, rfl, hf0, bc⟩
  refine hK.out _ _ ⟨ck bc hHeld.1, ck bc hHeld.2.1, ck bc hHeld.2.2.1, ck bc hHeld.2.2.2⟩ (fun hHeld => ?_)
  clear hK K
  (try simp only [List.setIfInBounds_toArray, List.set_cons_zero, List.set_cons_succ])
  replace k_c := bk bc k_c
  replace bw := bs bc bw
  (try replace r1 := (r1.below bc).more bc.size)
  (try replace r7 := (r7.below bc).more bc.size)
  (try replace rJ := (rJ.below bc).more bc.size)
  have Fj := Lib.hid hf0
  clear hf0
  clear bc
  refine takx (i := 10) (D := 8) (v := .int .i64 i) rfl rfl (by kernel_rfl) (by kernel_rfl) (by kernel_rfl) (fun _ _ _ h => h) (Or.inl ⟨by rfl, fun W hSw => by (try dsimp only at hSw); go_simp⟩) (by assumption) ?_
  (try simp only [List.setIfInBounds_toArray, List.set_cons_zero, List.set_cons_succ])
  refine takx (i := 11) (D := 9) (v := .int .i64 j) rfl rfl (by kernel_rfl) (by kernel_rfl) (by kernel_rfl) (fun _ _ _ h => h) (Or.inl ⟨by rfl, fun W hSw => by (try dsimp only at hSw); go_simp⟩) (by assumption) ?_
  (try simp only [List.setIfInBounds_toArray, List.set_cons_zero, List.set_cons_succ])
  refine wpAnyH_done (by kernel_rfl) ?_ _
  obtain ⟨WB, eW⟩ : ∃ W, W = X6 := ⟨_, rfl⟩
  rw [← eW] at bw k_c rJ ⊢
  clear hHeld r1 r7 eW
  have Ni := Lib.hid (near_of_first H5.out HO.out Fi.out)
  have Nj := Lib.hid (near_of_first H5.out HOJ.out Fj.out)
  have hi : i < n := by have := Ni.out.lt (by rw [HR.out.1]; exact h0); rwa [HR.out.1] at this
  have hj : j < nm := by have := Nj.out.lt (by rw [rJ.1]; exact hnm0); rwa [rJ.1] at this
  have i1 : (i : Int) < (n : Int) := by omega
  have i2 : ¬ (n : Int) ≤ (i : Int) := by omega
  have i3 : ¬ (i : Int) < 0 := by omega
  have i0 : (0 : Int) ≤ (i : Int) := by omega
  have j1 : (j : Int) < (nm : Int) := by omega
  have j2 : ¬ (nm : Int) ≤ (j : Int) := by omega
  have j3 : ¬ (j : Int) < 0 := by omega
  have j0 : (0 : Int) ≤ (j : Int) := by omega
  have HP := Lib.hid (HR.out.2.2.1 _ (getD_mem qs i (by rw [HR.out.1]; exact hi)))
  have HY := Lib.hid (rJ.2.2.1 _ (getD_mem (qs ++ rs) j (by rw [rJ.1]; exact hj)))
  have HM := Lib.hid (near_more (by rw [HR.out.1]; exact h0) Ni.out Nj.out)
  generalize hp : qs.getD i default = p at HP HM
  generalize hy : (qs ++ rs).getD j default = y at HY HM
  have HPE := Lib.hid hp
  have HYE := Lib.hid hy
  clear hp hy
  go_upto_region 7 with fail
  have bw0 := bw
  clear bw
  have bw : Below WB.heap.size WB WB := Below.refl _ _
  go_cut [10, 11] (fun s10 s11 wx => ∃ (g : Nat), s10 = .pointer (some ⟨g, 0, none⟩) ∧ s11 = .bool true ∧ wx.heap[g]? = some (.cells #[.int .i64 (y.a % 256), .int .i64 (y.b % 256), .int .i64 (y.c % 256), .int .i64 (y.d % 256)] 25 (0, 0)) ∧ wx.heap[w.heap.size]? = some (.cells #[.int .i64 q.a, .int .i64 q.b, .int .i64 q.c, .int .i64 q.d] 23 (0, 0)) ∧ Hid (RdQuads wx wx.heap.size (some ⟨bj, oj, none⟩) nm (qs ++ rs)) ∧ Hid (Below w.heap.size w wx))
  case first =>
    refine wp_region_held_drew (S := fun w' => w'.cell? ⟨w.heap.size, 0, none⟩ = some (.int .i64 q.a) ∧ w'.cell? ⟨w.heap.size, 1, none⟩ = some (.int .i64 q.b) ∧ w'.cell? ⟨w.heap.size, 2, none⟩ = some (.int .i64 q.c) ∧ w'.cell? ⟨w.heap.size, 3, none⟩ = some (.int .i64 q.d)) (by kernel_rfl) ⟨(q4c k_c).1.1, (q4c k_c).1.2.1, (q4c k_c).1.2.2.1, (q4c k_c).1.2.2.2⟩ ?_
    intro hHeld
    obtain ⟨X7, eX, bc⟩ : ∃ X, X = WB.drew ∧ Below WB.heap.size WB X := ⟨_, rfl, (Below.refl _ _).drew⟩
    rw [← eX] at hHeld ⊢
    replace k_c := bk bc k_c
    replace bw := bs bc bw
    (try replace r1 := (r1.below bc).more bc.size)
    clear eX bc
    refine takx (i := 0) (D := 64) (v := .slice (some ⟨bj, oj, none⟩) nm cJ) rfl rfl (by kernel_rfl) (by kernel_rfl) (by kernel_rfl) (fun _ _ _ h => h) (Or.inl ⟨by rfl, fun W hSw => by (try dsimp only at hSw); go_simp⟩) (by assumption) ?_
    (try simp only [List.setIfInBounds_toArray, List.set_cons_zero, List.set_cons_succ])
    refine takx (i := 2) (D := 66) (v := .agg #[.int .i64 q.a, .int .i64 q.b, .int .i64 q.c, .int .i64 q.d]) rfl rfl (by kernel_rfl) (by kernel_rfl) (by kernel_rfl) (fun _ _ _ h => h) (Or.inl ⟨by rfl, fun W hSw => by (try dsimp only at hSw); go_simp⟩) (by assumption) ?_
    (try simp only [List.setIfInBounds_toArray, List.set_cons_zero, List.set_cons_succ])
    refine wpAnyH_ready (rs := [1, 8]) (by kernel_rfl) (by simp) ?_
    refine (AllReadyH.cons rfl (fun K hK => ?_) (AllReadyH.cons rfl (fun K hK => ?_) AllReadyH.nil))
    · go_simp
      refine (toColors_any nm cJ (some ⟨bj, oj, none⟩) (qs ++ rs) _ ((rJ.below bw).more bw.size)).mono ?_
      rintro e X8 ⟨A1, cp1, rfl, r1, lo1, bc⟩
      refine hK.out _ _ ⟨ck bc hHeld.1, ck bc hHeld.2.1, ck bc hHeld.2.2.1, ck bc hHeld.2.2.2⟩ (fun hHeld => ?_)
      clear hK K
      (try simp only [List.setIfInBounds_toArray, List.set_cons_zero, List.set_cons_succ])
      replace k_c := bk bc k_c
      replace bw := bs bc bw
      (try replace r1 := (r1.below bc).more bc.size)
      clear bc
      refine wpAnyH_ready (rs := [3, 8]) (by kernel_rfl) (by simp) ?_
      refine (AllReadyH.cons rfl (fun K hK => ?_) (AllReadyH.cons rfl (fun K hK => ?_) AllReadyH.nil))
      · go_simp
        refine (toColor4 q.a q.b q.c q.d _).mono ?_
        rintro e X9 ⟨rfl, bc⟩
        refine hK.out _ _ ⟨ck bc hHeld.1, ck bc hHeld.2.1, ck bc hHeld.2.2.1, ck bc hHeld.2.2.2⟩ (fun hHeld => ?_)
        clear hK K
        (try simp only [List.setIfInBounds_toArray, List.set_cons_zero, List.set_cons_succ])
        replace k_c := bk bc k_c
        replace bw := bs bc bw
        (try replace r1 := (r1.below bc).more bc.size)
        clear bc
        refine wpAnyH_ready (rs := [4, 8]) (by kernel_rfl) (by simp) ?_
        refine (AllReadyH.cons rfl (fun K hK => ?_) (AllReadyH.cons rfl (fun K hK => ?_) AllReadyH.nil))
        · go_simp
          refine (palConv4 nm cp1 A1 (qs ++ rs) (q.a) (q.b) (q.c) (q.d) _ r1 hnm0).mono ?_
          rintro e X10 ⟨jj, z, rfl, hx0, hf0, bc⟩
          refine hK.out _ _ ⟨ck bc hHeld.1, ck bc hHeld.2.1, ck bc hHeld.2.2.1, ck bc hHeld.2.2.2⟩ (fun hHeld => ?_)
          clear hK K
          (try simp only [List.setIfInBounds_toArray, List.set_cons_zero, List.set_cons_succ])
          replace k_c := bk bc k_c
          replace bw := bs bc bw
          (try replace r1 := (r1.below bc).more bc.size)
          have Hz := Lib.hid hx0
          have Fjj := Lib.hid hf0
          clear hx0 hf0
          clear bc
          refine takx (i := 5) (D := 63) (v := .tuple #[.agg #[.int .i64 (z.a % 256), .int .i64 (z.b % 256), .int .i64 (z.c % 256), .int .i64 (z.d % 256)], .bool true]) rfl rfl (by kernel_rfl) (by kernel_rfl) (by kernel_rfl) (fun _ _ _ h => h) (Or.inl ⟨by rfl, fun W hSw => by (try dsimp only at hSw); go_simp⟩) (by assumption) ?_
          (try simp only [List.setIfInBounds_toArray, List.set_cons_zero, List.set_cons_succ])
          refine takx (i := 6) (D := 69) (v := .agg #[.int .i64 (z.a % 256), .int .i64 (z.b % 256), .int .i64 (z.c % 256), .int .i64 (z.d % 256)]) rfl rfl (by kernel_rfl) (by kernel_rfl) (by kernel_rfl) (fun _ _ _ h => h) (Or.inl ⟨by rfl, fun W hSw => by (try dsimp only at hSw); go_simp⟩) (by assumption) ?_
          (try simp only [List.setIfInBounds_toArray, List.set_cons_zero, List.set_cons_succ])
          refine takx (i := 7) (D := 70) (v := .bool true) rfl rfl (by kernel_rfl) (by kernel_rfl) (by kernel_rfl) (fun _ _ _ h => h) (Or.inl ⟨by rfl, fun W hSw => by (try dsimp only at hSw); go_simp⟩) (by assumption) ?_
          (try simp only [List.setIfInBounds_toArray, List.set_cons_zero, List.set_cons_succ])
          refine wpAnyH_ready (rs := [8]) (by kernel_rfl) (by simp) ?_
          refine (AllReadyH.cons rfl (fun K hK => ?_) AllReadyH.nil)
          go_simp
          refine hK.out _ _ ⟨cka hHeld.1, cka hHeld.2.1, cka hHeld.2.2.1, cka hHeld.2.2.2⟩ (fun hHeld => ?_)
          clear hK K
          (try simp only [List.setIfInBounds_toArray, List.set_cons_zero, List.set_cons_succ])
          obtain ⟨X11, g11, eY, eg⟩ : ∃ Y g, Y = X10.alloc (.cells #[.int .i64 0, .int .i64 0, .int .i64 0, .int .i64 0] 25) ∧ g = X10.heap.size := ⟨_, _, rfl, rfl⟩
          rw [← eY, ← eg]
          rw [← eY] at hHeld
          have bc : Below X10.heap.size X10 X11 := by rw [eY]; exact (Below.refl _ _).alloc (Nat.le_refl _) _
          have k_n10 : X11.heap[g11]? = some (.cells #[.int .i64 0, .int .i64 0, .int .i64 0, .int .i64 0] 25 (0, 0)) := by rw [eY, eg]; exact heap_alloc_new X10 _
          have lo_n10 : WB.heap.size ≤ g11 := by rw [eg]; exact bw.size
          have ne_c_n10 : ¬ w.heap.size = g11 := ne_new k_c eg
          replace k_c := bk bc k_c
          replace bw := bs bc bw
          (try replace r1 := (r1.below bc).more bc.size)
          clear bc eY eg
          refine wpAnyH_ready (rs := [9]) (by kernel_rfl) (by simp) ?_
          refine (AllReadyH.cons rfl (fun K hK => ?_) AllReadyH.nil)
          have qq := q4c k_n10
          go_simp
          clear qq
          refine hK.out _ _ ⟨(cks ne_c_n10 (cks ne_c_n10 (cks ne_c_n10 (cks ne_c_n10 hHeld.1)))), (cks ne_c_n10 (cks ne_c_n10 (cks ne_c_n10 (cks ne_c_n10 hHeld.2.1)))), (cks ne_c_n10 (cks ne_c_n10 (cks ne_c_n10 (cks ne_c_n10 hHeld.2.2.1)))), (cks ne_c_n10 (cks ne_c_n10 (cks ne_c_n10 (cks ne_c_n10 hHeld.2.2.2))))⟩ (fun hHeld => ?_)
          clear hK K
          (try simp only [List.setIfInBounds_toArray, List.set_cons_zero, List.set_cons_succ])
          obtain ⟨X12, eY⟩ : ∃ Y, Y = ((((X11.setCell ⟨g11, 0, none⟩ (.int .i64 (z.a % 256))).setCell ⟨g11, 1, none⟩ (.int .i64 (z.b % 256))).setCell ⟨g11, 2, none⟩ (.int .i64 (z.c % 256))).setCell ⟨g11, 3, none⟩ (.int .i64 (z.d % 256))) := ⟨_, rfl⟩
          rw [← eY] at hHeld ⊢
          replace k_c : X12.heap[w.heap.size]? = some (.cells #[.int .i64 q.a, .int .i64 q.b, .int .i64 q.c, .int .i64 q.d] 23 (0, 0)) := by rw [eY]; exact (bks ne_c_n10 (bks ne_c_n10 (bks ne_c_n10 (bks ne_c_n10 k_c))))
          replace bw : Below WB.heap.size WB X12 := by rw [eY]; exact (bss lo_n10 (bss lo_n10 (bss lo_n10 (bss lo_n10 bw))))
          replace k_n10 : X12.heap[g11]? = some (.cells #[.int .i64 (z.a % 256), .int .i64 (z.b % 256), .int .i64 (z.c % 256), .int .i64 (z.d % 256)] 25 (0, 0)) := by rw [eY]; exact q4s k_n10
          clear eY
          refine takx (i := 10) (D := 11) (v := .bool true) rfl rfl (by kernel_rfl) (by kernel_rfl) (by kernel_rfl) (fun _ _ _ h => h) (Or.inl ⟨by rfl, fun W hSw => by (try dsimp only at hSw); go_simp⟩) (by assumption) ?_
          (try simp only [List.setIfInBounds_toArray, List.set_cons_zero, List.set_cons_succ])
          refine wpAnyH_done (by kernel_rfl) ?_ _
          go_wp2_with fail
          go_meet
          obtain rfl : jj = j := Fjj.out.unique Fj.out
          obtain rfl : z = y := by rw [Hz.out, HYE.out]
          exact ⟨_, rfl, rfl, k_n10, k_c, (rJ.below bw).more bw.size, bs bw bw0⟩
        · go_simp
          refine hK.out _ _ ⟨cka hHeld.1, cka hHeld.2.1, cka hHeld.2.2.1, cka hHeld.2.2.2⟩ (fun hHeld => ?_)
          clear hK K
          (try simp only [List.setIfInBounds_toArray, List.set_cons_zero, List.set_cons_succ])
          obtain ⟨X13, g13, eY, eg⟩ : ∃ Y g, Y = X9.alloc (.cells #[.int .i64 0, .int .i64 0, .int .i64 0, .int .i64 0] 25) ∧ g = X9.heap.size := ⟨_, _, rfl, rfl⟩
          rw [← eY, ← eg]
          rw [← eY] at hHeld
          have bc : Below X9.heap.size X9 X13 := by rw [eY]; exact (Below.refl _ _).alloc (Nat.le_refl _) _
          have k_n10 : X13.heap[g13]? = some (.cells #[.int .i64 0, .int .i64 0, .int .i64 0, .int .i64 0] 25 (0, 0)) := by rw [eY, eg]; exact heap_alloc_new X9 _
          have lo_n10 : WB.heap.size ≤ g13 := by rw [eg]; exact bw.size
          have ne_c_n10 : ¬ w.heap.size = g13 := ne_new k_c eg
          replace k_c := bk bc k_c
          replace bw := bs bc bw
          (try replace r1 := (r1.below bc).more bc.size)
          clear bc eY eg
          refine wpAnyH_ready (rs := [4]) (by kernel_rfl) (by simp) ?_
          refine (AllReadyH.cons rfl (fun K hK => ?_) AllReadyH.nil)
          go_simp
          refine (palConv4 nm cp1 A1 (qs ++ rs) (q.a) (q.b) (q.c) (q.d) _ r1 hnm0).mono ?_
          rintro e X14 ⟨jj, z, rfl, hx0, hf0, bc⟩
          refine hK.out _ _ ⟨ck bc hHeld.1, ck bc hHeld.2.1, ck bc hHeld.2.2.1, ck bc hHeld.2.2.2⟩ (fun hHeld => ?_)
          clear hK K
          (try simp only [List.setIfInBounds_toArray, List.set_cons_zero, List.set_cons_succ])
          replace k_c := bk bc k_c
          replace k_n10 := bk bc k_n10
          replace bw := bs bc bw
          (try replace r1 := (r1.below bc).more bc.size)
          have Hz := Lib.hid hx0
          have Fjj := Lib.hid hf0
          clear hx0 hf0
          clear bc
          refine takx (i := 5) (D := 63) (v := .tuple #[.agg #[.int .i64 (z.a % 256), .int .i64 (z.b % 256), .int .i64 (z.c % 256), .int .i64 (z.d % 256)], .bool true]) rfl rfl (by kernel_rfl) (by kernel_rfl) (by kernel_rfl) (fun _ _ _ h => h) (Or.inl ⟨by rfl, fun W hSw => by (try dsimp only at hSw); go_simp⟩) (by assumption) ?_
          (try simp only [List.setIfInBounds_toArray, List.set_cons_zero, List.set_cons_succ])
          refine takx (i := 6) (D := 69) (v := .agg #[.int .i64 (z.a % 256), .int .i64 (z.b % 256), .int .i64 (z.c % 256), .int .i64 (z.d % 256)]) rfl rfl (by kernel_rfl) (by kernel_rfl) (by kernel_rfl) (fun _ _ _ h => h) (Or.inl ⟨by rfl, fun W hSw => by (try dsimp only at hSw); go_simp⟩) (by assumption) ?_
          (try simp only [List.setIfInBounds_toArray, List.set_cons_zero, List.set_cons_succ])
          refine takx (i := 7) (D := 70) (v := .bool true) rfl rfl (by kernel_rfl) (by kernel_rfl) (by kernel_rfl) (fun _ _ _ h => h) (Or.inl ⟨by rfl, fun W hSw => by (try dsimp only at hSw); go_simp⟩) (by assumption) ?_
          (try simp only [List.setIfInBounds_toArray, List.set_cons_zero, List.set_cons_succ])
          refine wpAnyH_ready (rs := [9]) (by kernel_rfl) (by simp) ?_
          refine (AllReadyH.cons rfl (fun K hK => ?_) AllReadyH.nil)
          have qq := q4c k_n10
          go_simp
          clear qq
          refine hK.out _ _ ⟨(cks ne_c_n10 (cks ne_c_n10 (cks ne_c_n10 (cks ne_c_n10 hHeld.1)))), (cks ne_c_n10 (cks ne_c_n10 (cks ne_c_n10 (cks ne_c_n10 hHeld.2.1)))), (cks ne_c_n10 (cks ne_c_n10 (cks ne_c_n10 (cks ne_c_n10 hHeld.2.2.1)))), (cks ne_c_n10 (cks ne_c_n10 (cks ne_c_n10 (cks ne_c_n10 hHeld.2.2.2))))⟩ (fun hHeld => ?_)
          clear hK K
          (try simp only [List.setIfInBounds_toArray, List.set_cons_zero, List.set_cons_succ])
          obtain ⟨X15, eY⟩ : ∃ Y, Y = ((((X14.setCell ⟨g13, 0, none⟩ (.int .i64 (z.a % 256))).setCell ⟨g13, 1, none⟩ (.int .i64 (z.b % 256))).setCell ⟨g13, 2, none⟩ (.int .i64 (z.c % 256))).setCell ⟨g13, 3, none⟩ (.int .i64 (z.d % 256))) := ⟨_, rfl⟩
          rw [← eY] at hHeld ⊢
          replace k_c : X15.heap[w.heap.size]? = some (.cells #[.int .i64 q.a, .int .i64 q.b, .int .i64 q.c, .int .i64 q.d] 23 (0, 0)) := by rw [eY]; exact (bks ne_c_n10 (bks ne_c_n10 (bks ne_c_n10 (bks ne_c_n10 k_c))))
          replace bw : Below WB.heap.size WB X15 := by rw [eY]; exact (bss lo_n10 (bss lo_n10 (bss lo_n10 (bss lo_n10 bw))))
          replace k_n10 : X15.heap[g13]? = some (.cells #[.int .i64 (z.a % 256), .int .i64 (z.b % 256), .int .i64 (z.c % 256), .int .i64 (z.d % 256)] 25 (0, 0)) := by rw [eY]; exact q4s k_n10
          clear eY
          refine takx (i := 10) (D := 11) (v := .bool true) rfl rfl (by kernel_rfl) (by kernel_rfl) (by kernel_rfl) (fun _ _ _ h => h) (Or.inl ⟨by rfl, fun W hSw => by (try dsimp only at hSw); go_simp⟩) (by assumption) ?_
          (try simp only [List.setIfInBounds_toArray, List.set_cons_zero, List.set_cons_succ])
          refine wpAnyH_done (by kernel_rfl) ?_ _
          go_wp2_with fail
          go_meet
          obtain rfl : jj = j := Fjj.out.unique Fj.out
          obtain rfl : z = y := by rw [Hz.out, HYE.out]
          exact ⟨_, rfl, rfl, k_n10, k_c, (rJ.below bw).more bw.size, bs bw bw0⟩
      · go_simp
        refine hK.out _ _ ⟨cka hHeld.1, cka hHeld.2.1, cka hHeld.2.2.1, cka hHeld.2.2.2⟩ (fun hHeld => ?_)
        clear hK K
        (try simp only [List.setIfInBounds_toArray, List.set_cons_zero, List.set_cons_succ])
        obtain ⟨X16, g16, eY, eg⟩ : ∃ Y g, Y = X8.alloc (.cells #[.int .i64 0, .int .i64 0, .int .i64 0, .int .i64 0] 25) ∧ g = X8.heap.size := ⟨_, _, rfl, rfl⟩
        rw [← eY, ← eg]
        rw [← eY] at hHeld
        have bc : Below X8.heap.size X8 X16 := by rw [eY]; exact (Below.refl _ _).alloc (Nat.le_refl _) _
        have k_n10 : X16.heap[g16]? = some (.cells #[.int .i64 0, .int .i64 0, .int .i64 0, .int .i64 0] 25 (0, 0)) := by rw [eY, eg]; exact heap_alloc_new X8 _
        have lo_n10 : WB.heap.size ≤ g16 := by rw [eg]; exact bw.size
        have ne_c_n10 : ¬ w.heap.size = g16 := ne_new k_c eg
        replace k_c := bk bc k_c
        replace bw := bs bc bw
        (try replace r1 := (r1.below bc).more bc.size)
        clear bc eY eg
        refine wpAnyH_ready (rs := [3]) (by kernel_rfl) (by simp) ?_
        refine (AllReadyH.cons rfl (fun K hK => ?_) AllReadyH.nil)
        go_simp
        refine (toColor4 q.a q.b q.c q.d _).mono ?_
        rintro e X17 ⟨rfl, bc⟩
        refine hK.out _ _ ⟨ck bc hHeld.1, ck bc hHeld.2.1, ck bc hHeld.2.2.1, ck bc hHeld.2.2.2⟩ (fun hHeld => ?_)
        clear hK K
        (try simp only [List.setIfInBounds_toArray, List.set_cons_zero, List.set_cons_succ])
        replace k_c := bk bc k_c
        replace k_n10 := bk bc k_n10
        replace bw := bs bc bw
        (try replace r1 := (r1.below bc).more bc.size)
        clear bc
        refine wpAnyH_ready (rs := [4]) (by kernel_rfl) (by simp) ?_
        refine (AllReadyH.cons rfl (fun K hK => ?_) AllReadyH.nil)
        go_simp
        refine (palConv4 nm cp1 A1 (qs ++ rs) (q.a) (q.b) (q.c) (q.d) _ r1 hnm0).mono ?_
        rintro e X18 ⟨jj, z, rfl, hx0, hf0, bc⟩
        refine hK.out _ _ ⟨ck bc hHeld.1, ck bc hHeld.2.1, ck bc hHeld.2.2.1, ck bc hHeld.2.2.2⟩ (fun hHeld => ?_)
        clear hK K
        (try simp only [List.setIfInBounds_toArray, List.set_cons_zero, List.set_cons_succ])
        replace k_c := bk bc k_c
        replace k_n10 := bk bc k_n10
        replace bw := bs bc bw
        (try replace r1 := (r1.below bc).more bc.size)
        have Hz := Lib.hid hx0
        have Fjj := Lib.hid hf0
        clear hx0 hf0
        clear bc
        refine takx (i := 5) (D := 63) (v := .tuple #[.agg #[.int .i64 (z.a % 256), .int .i64 (z.b % 256), .int .i64 (z.c % 256), .int .i64 (z.d % 256)], .bool true]) rfl rfl (by kernel_rfl) (by kernel_rfl) (by kernel_rfl) (fun _ _ _ h => h) (Or.inl ⟨by rfl, fun W hSw => by (try dsimp only at hSw); go_simp⟩) (by assumption) ?_
        (try simp only [List.setIfInBounds_toArray, List.set_cons_zero, List.set_cons_succ])
        refine takx (i := 6) (D := 69) (v := .agg #[.int .i64 (z.a % 256), .int .i64 (z.b % 256), .int .i64 (z.c % 256), .int .i64 (z.d % 256)]) rfl rfl (by kernel_rfl) (by kernel_rfl) (by kernel_rfl) (fun _ _ _ h => h) (Or.inl ⟨by rfl, fun W hSw => by (try dsimp only at hSw); go_simp⟩) (by assumption) ?_
        (try simp only [List.setIfInBounds_toArray, List.set_cons_zero, List.set_cons_succ])
        refine takx (i := 7) (D := 70) (v := .bool true) rfl rfl (by kernel_rfl) (by kernel_rfl) (by kernel_rfl) (fun _ _ _ h => h) (Or.inl ⟨by rfl, fun W hSw => by (try dsimp only at hSw); go_simp⟩) (by assumption) ?_
        (try simp only [List.setIfInBounds_toArray, List.set_cons_zero, List.set_cons_succ])
        refine wpAnyH_ready (rs := [9]) (by kernel_rfl) (by simp) ?_
        refine (AllReadyH.cons rfl (fun K hK => ?_) AllReadyH.nil)
        have qq := q4c k_n10
        go_simp
        clear qq
        refine hK.out _ _ ⟨(cks ne_c_n10 (cks ne_c_n10 (cks ne_c_n10 (cks ne_c_n10 hHeld.1)))), (cks ne_c_n10 (cks ne_c_n10 (cks ne_c_n10 (cks ne_c_n10 hHeld.2.1)))), (cks ne_c_n10 (cks ne_c_n10 (cks ne_c_n10 (cks ne_c_n10 hHeld.2.2.1)))), (cks ne_c_n10 (cks ne_c_n10 (cks ne_c_n10 (cks ne_c_n10 hHeld.2.2.2))))⟩ (fun hHeld => ?_)
        clear hK K
        (try simp only [List.setIfInBounds_toArray, List.set_cons_zero, List.set_cons_succ])
        obtain ⟨X19, eY⟩ : ∃ Y, Y = ((((X18.setCell ⟨g16, 0, none⟩ (.int .i64 (z.a % 256))).setCell ⟨g16, 1, none⟩ (.int .i64 (z.b % 256))).setCell ⟨g16, 2, none⟩ (.int .i64 (z.c % 256))).setCell ⟨g16, 3, none⟩ (.int .i64 (z.d % 256))) := ⟨_, rfl⟩
        rw [← eY] at hHeld ⊢
        replace k_c : X19.heap[w.heap.size]? = some (.cells #[.int .i64 q.a, .int .i64 q.b, .int .i64 q.c, .int .i64 q.d] 23 (0, 0)) := by rw [eY]; exact (bks ne_c_n10 (bks ne_c_n10 (bks ne_c_n10 (bks ne_c_n10 k_c))))
        replace bw : Below WB.heap.size WB X19 := by rw [eY]; exact (bss lo_n10 (bss lo_n10 (bss lo_n10 (bss lo_n10 bw))))
        replace k_n10 : X19.heap[g16]? = some (.cells #[.int .i64 (z.a % 256), .int .i64 (z.b % 256), .int .i64 (z.c % 256), .int .i64 (z.d % 256)] 25 (0, 0)) := by rw [eY]; exact q4s k_n10
        clear eY
        refine takx (i := 10) (D := 11) (v := .bool true) rfl rfl (by kernel_rfl) (by kernel_rfl) (by kernel_rfl) (fun _ _ _ h => h) (Or.inl ⟨by rfl, fun W hSw => by (try dsimp only at hSw); go_simp⟩) (by assumption) ?_
        (try simp only [List.setIfInBounds_toArray, List.set_cons_zero, List.set_cons_succ])
        refine wpAnyH_done (by kernel_rfl) ?_ _
        go_wp2_with fail
        go_meet
        obtain rfl : jj = j := Fjj.out.unique Fj.out
        obtain rfl : z = y := by rw [Hz.out, HYE.out]
        exact ⟨_, rfl, rfl, k_n10, k_c, (rJ.below bw).more bw.size, bs bw bw0⟩
    · go_simp
      refine hK.out _ _ ⟨cka hHeld.1, cka hHeld.2.1, cka hHeld.2.2.1, cka hHeld.2.2.2⟩ (fun hHeld => ?_)
      clear hK K
      (try simp only [List.setIfInBounds_toArray, List.set_cons_zero, List.set_cons_succ])
      obtain ⟨X20, g20, eY, eg⟩ : ∃ Y g, Y = X7.alloc (.cells #[.int .i64 0, .int .i64 0, .int .i64 0, .int .i64 0] 25) ∧ g = X7.heap.size := ⟨_, _, rfl, rfl⟩
      rw [← eY, ← eg]
      rw [← eY] at hHeld
      have bc : Below X7.heap.size X7 X20 := by rw [eY]; exact (Below.refl _ _).alloc (Nat.le_refl _) _
      have k_n10 : X20.heap[g20]? = some (.cells #[.int .i64 0, .int .i64 0, .int .i64 0, .int .i64 0] 25 (0, 0)) := by rw [eY, eg]; exact heap_alloc_new X7 _
      have lo_n10 : WB.heap.size ≤ g20 := by rw [eg]; exact bw.size
      have ne_c_n10 : ¬ w.heap.size = g20 := ne_new k_c eg
      replace k_c := bk bc k_c
      replace bw := bs bc bw
      (try replace r1 := (r1.below bc).more bc.size)
      clear bc eY eg
      refine wpAnyH_ready (rs := [1]) (by kernel_rfl) (by simp) ?_
      refine (AllReadyH.cons rfl (fun K hK => ?_) AllReadyH.nil)
      go_simp
      refine (toColors_any nm cJ (some ⟨bj, oj, none⟩) (qs ++ rs) _ ((rJ.below bw).more bw.size)).mono ?_
      rintro e X21 ⟨A1, cp1, rfl, r1, lo1, bc⟩
      refine hK.out _ _ ⟨ck bc hHeld.1, ck bc hHeld.2.1, ck bc hHeld.2.2.1, ck bc hHeld.2.2.2⟩ (fun hHeld => ?_)
      clear hK K
      (try simp only [List.setIfInBounds_toArray, List.set_cons_zero, List.set_cons_succ])
      replace k_c := bk bc k_c
      replace k_n10 := bk bc k_n10
      replace bw := bs bc bw
      (try replace r1 := (r1.below bc).more bc.size)
      clear bc
      refine wpAnyH_ready (rs := [3]) (by kernel_rfl) (by simp) ?_
      refine (AllReadyH.cons rfl (fun K hK => ?_) AllReadyH.nil)
      go_simp
      refine (toColor4 q.a q.b q.c q.d _).mono ?_
      rintro e X22 ⟨rfl, bc⟩
      refine hK.out _ _ ⟨ck bc hHeld.1, ck bc hHeld.2.1, ck bc hHeld.2.2.1, ck bc hHeld.2.2.2⟩ (fun hHeld => ?_)
      clear hK K
      (try simp only [List.setIfInBounds_toArray, List.set_cons_zero, List.set_cons_succ])
      replace k_c := bk bc k_c
      replace k_n10 := bk bc k_n10
      replace bw := bs bc bw
      (try replace r1 := (r1.below bc).more bc.size)
      clear bc
      refine wpAnyH_ready (rs := [4]) (by kernel_rfl) (by simp) ?_
      refine (AllReadyH.cons rfl (fun K hK => ?_) AllReadyH.nil)
      go_simp
      refine (palConv4 nm cp1 A1 (qs ++ rs) (q.a) (q.b) (q.c) (q.d) _ r1 hnm0).mono ?_
      rintro e X23 ⟨jj, z, rfl, hx0, hf0, bc⟩
      refine hK.out _ _ ⟨ck bc hHeld.1, ck bc hHeld.2.1, ck bc hHeld.2.2.1, ck bc hHeld.2.2.2⟩ (fun hHeld => ?_)
      clear hK K
      (try simp only [List.setIfInBounds_toArray, List.set_cons_zero, List.set_cons_succ])
      replace k_c := bk bc k_c
      replace k_n10 := bk bc k_n10
      replace bw := bs bc bw
      (try replace r1 := (r1.below bc).more bc.size)
      have Hz := Lib.hid hx0
      have Fjj := Lib.hid hf0
      clear hx0 hf0
      clear bc
      refine takx (i := 5) (D := 63) (v := .tuple #[.agg #[.int .i64 (z.a % 256), .int .i64 (z.b % 256), .int .i64 (z.c % 256), .int .i64 (z.d % 256)], .bool true]) rfl rfl (by kernel_rfl) (by kernel_rfl) (by kernel_rfl) (fun _ _ _ h => h) (Or.inl ⟨by rfl, fun W hSw => by (try dsimp only at hSw); go_simp⟩) (by assumption) ?_
      (try simp only [List.setIfInBounds_toArray, List.set_cons_zero, List.set_cons_succ])
      refine takx (i := 6) (D := 69) (v := .agg #[.int .i64 (z.a % 256), .int .i64 (z.b % 256), .int .i64 (z.c % 256), .int .i64 (z.d % 256)]) rfl rfl (by kernel_rfl) (by kernel_rfl) (by kernel_rfl) (fun _ _ _ h => h) (Or.inl ⟨by rfl, fun W hSw => by (try dsimp only at hSw); go_simp⟩) (by assumption) ?_
      (try simp only [List.setIfInBounds_toArray, List.set_cons_zero, List.set_cons_succ])
      refine takx (i := 7) (D := 70) (v := .bool true) rfl rfl (by kernel_rfl) (by kernel_rfl) (by kernel_rfl) (fun _ _ _ h => h) (Or.inl ⟨by rfl, fun W hSw => by (try dsimp only at hSw); go_simp⟩) (by assumption) ?_
      (try simp only [List.setIfInBounds_toArray, List.set_cons_zero, List.set_cons_succ])
      refine wpAnyH_ready (rs := [9]) (by kernel_rfl) (by simp) ?_
      refine (AllReadyH.cons rfl (fun K hK => ?_) AllReadyH.nil)
      have qq := q4c k_n10
      go_simp
      clear qq
      refine hK.out _ _ ⟨(cks ne_c_n10 (cks ne_c_n10 (cks ne_c_n10 (cks ne_c_n10 hHeld.1)))), (cks ne_c_n10 (cks ne_c_n10 (cks ne_c_n10 (cks ne_c_n10 hHeld.2.1)))), (cks ne_c_n10 (cks ne_c_n10 (cks ne_c_n10 (cks ne_c_n10 hHeld.2.2.1)))), (cks ne_c_n10 (cks ne_c_n10 (cks ne_c_n10 (cks ne_c_n10 hHeld.2.2.2))))⟩ (fun hHeld => ?_)
      clear hK K
      (try simp only [List.setIfInBounds_toArray, List.set_cons_zero, List.set_cons_succ])
      obtain ⟨X24, eY⟩ : ∃ Y, Y = ((((X23.setCell ⟨g20, 0, none⟩ (.int .i64 (z.a % 256))).setCell ⟨g20, 1, none⟩ (.int .i64 (z.b % 256))).setCell ⟨g20, 2, none⟩ (.int .i64 (z.c % 256))).setCell ⟨g20, 3, none⟩ (.int .i64 (z.d % 256))) := ⟨_, rfl⟩
      rw [← eY] at hHeld ⊢
      replace k_c : X24.heap[w.heap.size]? = some (.cells #[.int .i64 q.a, .int .i64 q.b, .int .i64 q.c, .int .i64 q.d] 23 (0, 0)) := by rw [eY]; exact (bks ne_c_n10 (bks ne_c_n10 (bks ne_c_n10 (bks ne_c_n10 k_c))))
      replace bw : Below WB.heap.size WB X24 := by rw [eY]; exact (bss lo_n10 (bss lo_n10 (bss lo_n10 (bss lo_n10 bw))))
      replace k_n10 : X24.heap[g20]? = some (.cells #[.int .i64 (z.a % 256), .int .i64 (z.b % 256), .int .i64 (z.c % 256), .int .i64 (z.d % 256)] 25 (0, 0)) := by rw [eY]; exact q4s k_n10
      clear eY
      refine takx (i := 10) (D := 11) (v := .bool true) rfl rfl (by kernel_rfl) (by kernel_rfl) (by kernel_rfl) (fun _ _ _ h => h) (Or.inl ⟨by rfl, fun W hSw => by (try dsimp only at hSw); go_simp⟩) (by assumption) ?_
      (try simp only [List.setIfInBounds_toArray, List.set_cons_zero, List.set_cons_succ])
      refine wpAnyH_done (by kernel_rfl) ?_ _
      go_wp2_with fail
      go_meet
      obtain rfl : jj = j := Fjj.out.unique Fj.out
      obtain rfl : z = y := by rw [Hz.out, HYE.out]
      exact ⟨_, rfl, rfl, k_n10, k_c, (rJ.below bw).more bw.size, bs bw bw0⟩
  case rest =>
    clear bw bw0 k_c rJ
    obtain ⟨g, rfl, rfl, k_x, k_c, RJ, BW⟩ := hcut
    have bw := BW.out
    have rJ := RJ.out
    clear BW RJ
    obtain ⟨e1, e2, e3, e4⟩ := rJ.at hj
    rw [HYE.out] at e1 e2 e3 e4
    go_upto_region 8 with fail
    refine wp_region_held_drew (S := fun w' => w'.cell? ⟨g, 0, none⟩ = some (.int .i64 (y.a % 256)) ∧ w'.cell? ⟨g, 1, none⟩ = some (.int .i64 (y.b % 256)) ∧ w'.cell? ⟨g, 2, none⟩ = some (.int .i64 (y.c % 256)) ∧ w'.cell? ⟨g, 3, none⟩ = some (.int .i64 (y.d % 256)) ∧ w'.cell? ⟨bj, oj + j * 4, none⟩ = some (.int .i64 y.a) ∧ w'.cell? ⟨bj, oj + j * 4 + 1, none⟩ = some (.int .i64 y.b) ∧ w'.cell? ⟨bj, oj + j * 4 + 2, none⟩ = some (.int .i64 y.c) ∧ w'.cell? ⟨bj, oj + j * 4 + 3, none⟩ = some (.int .i64 y.d)) (by kernel_rfl) ⟨(q4c k_x).1.1, (q4c k_x).1.2.1, (q4c k_x).1.2.2.1, (q4c k_x).1.2.2.2, (by assumption), (by assumption), (by assumption), (by assumption)⟩ ?_
    intro hHeld
    obtain ⟨X8, eX, bc⟩ : ∃ X, X = wc.drew ∧ Below wc.heap.size wc X := ⟨_, rfl, (Below.refl _ _).drew⟩
    rw [← eX] at hHeld ⊢
    replace k_c := bk bc k_c
    replace k_x := bk bc k_x
    replace bw := bs bc bw
    (try replace rJ := (rJ.below bc).more bc.size)
    clear eX bc
    refine takx (i := 0) (D := 71) (v := .bool true) rfl rfl (by kernel_rfl) (by kernel_rfl) (by kernel_rfl) (fun _ _ _ h => h) (Or.inl ⟨by rfl, fun W hSw => by (try dsimp only at hSw); go_simp⟩) (by assumption) ?_
    (try simp only [List.setIfInBounds_toArray, List.set_cons_zero, List.set_cons_succ])
    refine takx (i := 1) (D := 72) (v := .bool false) rfl rfl (by kernel_rfl) (by kernel_rfl) (by kernel_rfl) (fun _ _ _ h => h) (Or.inl ⟨by rfl, fun W hSw => by (try dsimp only at hSw); go_simp⟩) (by assumption) ?_
    (try simp only [List.setIfInBounds_toArray, List.set_cons_zero, List.set_cons_succ])
    refine takx (i := 2) (D := 73) (v := .bool false) rfl rfl (by kernel_rfl) (by kernel_rfl) (by kernel_rfl) (fun _ _ _ h => h) (Or.inl ⟨by rfl, fun W hSw => by (try dsimp only at hSw); go_simp⟩) (by assumption) ?_
    (try simp only [List.setIfInBounds_toArray, List.set_cons_zero, List.set_cons_succ])
    refine takx (i := 3) (D := 74) (v := .agg #[.int .i64 (y.a % 256), .int .i64 (y.b % 256), .int .i64 (y.c % 256), .int .i64 (y.d % 256)]) rfl rfl (by kernel_rfl) (by kernel_rfl) (by kernel_rfl) (fun _ _ _ h => h) (Or.inl ⟨by rfl, fun W hSw => by (try dsimp only at hSw); go_simp⟩) (by assumption) ?_
    (try simp only [List.setIfInBounds_toArray, List.set_cons_zero, List.set_cons_succ])
    refine takx (i := 4) (D := 75) (v := .slice (some ⟨bj, oj, none⟩) nm cJ) rfl rfl (by kernel_rfl) (by kernel_rfl) (by kernel_rfl) (fun _ _ _ h => h) (Or.inl ⟨by rfl, fun W hSw => by (try dsimp only at hSw); go_simp⟩) (by assumption) ?_
    (try simp only [List.setIfInBounds_toArray, List.set_cons_zero, List.set_cons_succ])
    refine takx (i := 5) (D := 76) (v := .int .i64 j) rfl rfl (by kernel_rfl) (by kernel_rfl) (by kernel_rfl) (fun _ _ _ h => h) (Or.inl ⟨by rfl, fun W hSw => by (try dsimp only at hSw); go_simp⟩) (by assumption) ?_
    (try simp only [List.setIfInBounds_toArray, List.set_cons_zero, List.set_cons_succ])
    refine takx (i := 6) (D := 77) (v := .pointer (some ⟨bj, oj + j * 4, none⟩)) rfl rfl (by kernel_rfl) (by kernel_rfl) (by kernel_rfl) (fun _ _ _ h => h) (Or.inl ⟨by rfl, fun W hSw => by (try dsimp only at hSw); go_simp⟩) (by assumption) ?_
    (try simp only [List.setIfInBounds_toArray, List.set_cons_zero, List.set_cons_succ])
    refine takx (i := 7) (D := 78) (v := .agg #[.int .i64 y.a, .int .i64 y.b, .int .i64 y.c, .int .i64 y.d]) rfl rfl (by kernel_rfl) (by kernel_rfl) (by kernel_rfl) (fun _ _ _ h => h) (Or.inl ⟨by rfl, fun W hSw => by (try dsimp only at hSw); go_simp⟩) (by assumption) ?_
    (try simp only [List.setIfInBounds_toArray, List.set_cons_zero, List.set_cons_succ])
    refine wpAnyH_ready (rs := [8]) (by kernel_rfl) (by simp) ?_
    refine (AllReadyH.cons rfl (fun K hK => ?_) AllReadyH.nil)
    go_simp
    refine (lowColor4 y HY.out _).mono ?_
    rintro e X9 ⟨rfl, bc⟩
    refine hK.out _ _ ⟨ck bc hHeld.1, ck bc hHeld.2.1, ck bc hHeld.2.2.1, ck bc hHeld.2.2.2.1, ck bc hHeld.2.2.2.2.1, ck bc hHeld.2.2.2.2.2.1, ck bc hHeld.2.2.2.2.2.2.1, ck bc hHeld.2.2.2.2.2.2.2⟩ (fun hHeld => ?_)
    clear hK K
    (try simp only [List.setIfInBounds_toArray, List.set_cons_zero, List.set_cons_succ])
    replace k_c := bk bc k_c
    replace k_x := bk bc k_x
    replace bw := bs bc bw
    (try replace rJ := (rJ.below bc).more bc.size)
    clear bc
    refine takx (i := 9) (D := 80) (v := .bool false) rfl rfl (by kernel_rfl) (by kernel_rfl) (by kernel_rfl) (fun _ _ _ h => h) (Or.inl ⟨by rfl, fun W hSw => by (try dsimp only at hSw); go_simp⟩) (by assumption) ?_
    (try simp only [List.setIfInBounds_toArray, List.set_cons_zero, List.set_cons_succ])
    refine takx (i := 10) (D := 81) (v := .bool false) rfl rfl (by kernel_rfl) (by kernel_rfl) (by kernel_rfl) (fun _ _ _ h => h) (Or.inl ⟨by rfl, fun W hSw => by (try dsimp only at hSw); go_simp⟩) (by assumption) ?_
    (try simp only [List.setIfInBounds_toArray, List.set_cons_zero, List.set_cons_succ])
    refine wpAnyH_done (by kernel_rfl) ?_ _
    obtain ⟨W8, eW⟩ : ∃ W, W = X9 := ⟨_, rfl⟩
    rw [← eW] at bw k_c rJ ⊢
    clear hHeld k_x eW e1 e2 e3 e4
    obtain ⟨e1, e2, e3, e4⟩ := rJ.at hj
    rw [HYE.out] at e1 e2 e3 e4
    obtain ⟨f1, f2, f3, f4⟩ := (HR.out.below bw).at hi
    rw [HPE.out] at f1 f2 f3 f4
    by_cases hji : j = i
    case pos =>
      have t1 : ((j : Int) == (i : Int)) = true := by rw [hji]; simp
      go_upto_region 10 with fail
      refine wp_region_held_drew (S := fun w' => w'.cell? ⟨w.heap.size, 0, none⟩ = some (.int .i64 q.a) ∧ w'.cell? ⟨w.heap.size, 1, none⟩ = some (.int .i64 q.b) ∧ w'.cell? ⟨w.heap.size, 2, none⟩ = some (.int .i64 q.c) ∧ w'.cell? ⟨w.heap.size, 3, none⟩ = some (.int .i64 q.d) ∧ w'.cell? ⟨bj, oj + j * 4, none⟩ = some (.int .i64 y.a) ∧ w'.cell? ⟨bj, oj + j * 4 + 1, none⟩ = some (.int .i64 y.b) ∧ w'.cell? ⟨bj, oj + j * 4 + 2, none⟩ = some (.int .i64 y.c) ∧ w'.cell? ⟨bj, oj + j * 4 + 3, none⟩ = some (.int .i64 y.d) ∧ w'.cell? ⟨b, off + i * 4, none⟩ = some (.int .i64 p.a) ∧ w'.cell? ⟨b, off + i * 4 + 1, none⟩ = some (.int .i64 p.b) ∧ w'.cell? ⟨b, off + i * 4 + 2, none⟩ = some (.int .i64 p.c) ∧ w'.cell? ⟨b, off + i * 4 + 3, none⟩ = some (.int .i64 p.d)) (by kernel_rfl) ⟨(q4c k_c).1.1, (q4c k_c).1.2.1, (q4c k_c).1.2.2.1, (q4c k_c).1.2.2.2, (by assumption), (by assumption), (by assumption), (by assumption), (by assumption), (by assumption), (by assumption), (by assumption)⟩ ?_
      intro hHeld
      obtain ⟨X10, eX, bc⟩ : ∃ X, X = W8.drew ∧ Below W8.heap.size W8 X := ⟨_, rfl, (Below.refl _ _).drew⟩
      rw [← eX] at hHeld ⊢
      replace k_c := bk bc k_c
      replace bw := bs bc bw
      clear eX bc
      refine takx (i := 0) (D := 82) (v := .int .i64 j) rfl rfl (by kernel_rfl) (by kernel_rfl) (by kernel_rfl) (fun _ _ _ h => h) (Or.inl ⟨by rfl, fun W hSw => by (try dsimp only at hSw); go_simp⟩) (by assumption) ?_
      (try simp only [List.setIfInBounds_toArray, List.set_cons_zero, List.set_cons_succ])
      refine takx (i := 1) (D := 83) (v := .int .i64 i) rfl rfl (by kernel_rfl) (by kernel_rfl) (by kernel_rfl) (fun _ _ _ h => h) (Or.inl ⟨by rfl, fun W hSw => by (try dsimp only at hSw); go_simp⟩) (by assumption) ?_
      (try simp only [List.setIfInBounds_toArray, List.set_cons_zero, List.set_cons_succ])
      refine takx (i := 2) (D := 84) (v := .bool true) rfl rfl (by kernel_rfl) (by kernel_rfl) (by kernel_rfl) (fun _ _ _ h => h) (Or.inl ⟨by rfl, fun W hSw => by (try dsimp only at hSw); go_simp⟩) (by assumption) ?_
      (try simp only [List.setIfInBounds_toArray, List.set_cons_zero, List.set_cons_succ])
      refine takx (i := 3) (D := 85) (v := .bool true) rfl rfl (by kernel_rfl) (by kernel_rfl) (by kernel_rfl) (fun _ _ _ h => h) (Or.inl ⟨by rfl, fun W hSw => by (try dsimp only at hSw); go_simp⟩) (by assumption) ?_
      (try simp only [List.setIfInBounds_toArray, List.set_cons_zero, List.set_cons_succ])
      refine takx (i := 4) (D := 86) (v := undef) rfl rfl (by kernel_rfl) (by kernel_rfl) (by kernel_rfl) (fun _ _ _ h => h) (Or.inr ⟨by rfl, rfl⟩) (by assumption) ?_
      (try simp only [List.setIfInBounds_toArray, List.set_cons_zero, List.set_cons_succ])
      refine takx (i := 5) (D := 87) (v := undef) rfl rfl (by kernel_rfl) (by kernel_rfl) (by kernel_rfl) (fun _ _ _ h => h) (Or.inr ⟨by rfl, rfl⟩) (by assumption) ?_
      (try simp only [List.setIfInBounds_toArray, List.set_cons_zero, List.set_cons_succ])
      refine takx (i := 6) (D := 88) (v := undef) rfl rfl (by kernel_rfl) (by kernel_rfl) (by kernel_rfl) (fun _ _ _ h => h) (Or.inr ⟨by rfl, rfl⟩) (by assumption) ?_
      (try simp only [List.setIfInBounds_toArray, List.set_cons_zero, List.set_cons_succ])
      refine takx (i := 7) (D := 89) (v := undef) rfl rfl (by kernel_rfl) (by kernel_rfl) (by kernel_rfl) (fun _ _ _ h => h) (Or.inr ⟨by rfl, rfl⟩) (by assumption) ?_
      (try simp only [List.setIfInBounds_toArray, List.set_cons_zero, List.set_cons_succ])
      refine takx (i := 8) (D := 90) (v := undef) rfl rfl (by kernel_rfl) (by kernel_rfl) (by kernel_rfl) (fun _ _ _ h => h) (Or.inr ⟨by rfl, rfl⟩) (by assumption) ?_
      (try simp only [List.setIfInBounds_toArray, List.set_cons_zero, List.set_cons_succ])
      refine takx (i := 9) (D := 91) (v := undef) rfl rfl (by kernel_rfl) (by kernel_rfl) (by kernel_rfl) (fun _ _ _ h => h) (Or.inr ⟨by rfl, rfl⟩) (by assumption) ?_
      (try simp only [List.setIfInBounds_toArray, List.set_cons_zero, List.set_cons_succ])
      refine takx (i := 10) (D := 92) (v := undef) rfl rfl (by kernel_rfl) (by kernel_rfl) (by kernel_rfl) (fun _ _ _ h => h) (Or.inr ⟨by rfl, rfl⟩) (by assumption) ?_
      (try simp only [List.setIfInBounds_toArray, List.set_cons_zero, List.set_cons_succ])
      refine takx (i := 11) (D := 93) (v := undef) rfl rfl (by kernel_rfl) (by kernel_rfl) (by kernel_rfl) (fun _ _ _ h => h) (Or.inr ⟨by rfl, rfl⟩) (by assumption) ?_
      (try simp only [List.setIfInBounds_toArray, List.set_cons_zero, List.set_cons_succ])
      refine takx (i := 12) (D := 94) (v := undef) rfl rfl (by kernel_rfl) (by kernel_rfl) (by kernel_rfl) (fun _ _ _ h => h) (Or.inr ⟨by rfl, rfl⟩) (by assumption) ?_
      (try simp only [List.setIfInBounds_toArray, List.set_cons_zero, List.set_cons_succ])
      refine takx (i := 13) (D := 95) (v := undef) rfl rfl (by kernel_rfl) (by kernel_rfl) (by kernel_rfl) (fun _ _ _ h => h) (Or.inr ⟨by rfl, rfl⟩) (by assumption) ?_
      (try simp only [List.setIfInBounds_toArray, List.set_cons_zero, List.set_cons_succ])
      refine takx (i := 14) (D := 96) (v := undef) rfl rfl (by kernel_rfl) (by kernel_rfl) (by kernel_rfl) (fun _ _ _ h => h) (Or.inr ⟨by rfl, rfl⟩) (by assumption) ?_
      (try simp only [List.setIfInBounds_toArray, List.set_cons_zero, List.set_cons_succ])
      refine takx (i := 15) (D := 97) (v := undef) rfl rfl (by kernel_rfl) (by kernel_rfl) (by kernel_rfl) (fun _ _ _ h => h) (Or.inr ⟨by rfl, rfl⟩) (by assumption) ?_
      (try simp only [List.setIfInBounds_toArray, List.set_cons_zero, List.set_cons_succ])
      refine takx (i := 16) (D := 98) (v := undef) rfl rfl (by kernel_rfl) (by kernel_rfl) (by kernel_rfl) (fun _ _ _ h => h) (Or.inr ⟨by rfl, rfl⟩) (by assumption) ?_
      (try simp only [List.setIfInBounds_toArray, List.set_cons_zero, List.set_cons_succ])
      refine takx (i := 17) (D := 99) (v := undef) rfl rfl (by kernel_rfl) (by kernel_rfl) (by kernel_rfl) (fun _ _ _ h => h) (Or.inr ⟨by rfl, rfl⟩) (by assumption) ?_
      (try simp only [List.setIfInBounds_toArray, List.set_cons_zero, List.set_cons_succ])
      refine takx (i := 18) (D := 100) (v := undef) rfl rfl (by kernel_rfl) (by kernel_rfl) (by kernel_rfl) (fun _ _ _ h => h) (Or.inr ⟨by rfl, rfl⟩) (by assumption) ?_
      (try simp only [List.setIfInBounds_toArray, List.set_cons_zero, List.set_cons_succ])
      refine takx (i := 19) (D := 101) (v := undef) rfl rfl (by kernel_rfl) (by kernel_rfl) (by kernel_rfl) (fun _ _ _ h => h) (Or.inr ⟨by rfl, rfl⟩) (by assumption) ?_
      (try simp only [List.setIfInBounds_toArray, List.set_cons_zero, List.set_cons_succ])
      refine takx (i := 20) (D := 102) (v := undef) rfl rfl (by kernel_rfl) (by kernel_rfl) (by kernel_rfl) (fun _ _ _ h => h) (Or.inr ⟨by rfl, rfl⟩) (by assumption) ?_
      (try simp only [List.setIfInBounds_toArray, List.set_cons_zero, List.set_cons_succ])
      refine takx (i := 21) (D := 103) (v := undef) rfl rfl (by kernel_rfl) (by kernel_rfl) (by kernel_rfl) (fun _ _ _ h => h) (Or.inr ⟨by rfl, rfl⟩) (by assumption) ?_
      (try simp only [List.setIfInBounds_toArray, List.set_cons_zero, List.set_cons_succ])
      refine takx (i := 22) (D := 104) (v := undef) rfl rfl (by kernel_rfl) (by kernel_rfl) (by kernel_rfl) (fun _ _ _ h => h) (Or.inr ⟨by rfl, rfl⟩) (by assumption) ?_
      (try simp only [List.setIfInBounds_toArray, List.set_cons_zero, List.set_cons_succ])
      refine takx (i := 23) (D := 105) (v := undef) rfl rfl (by kernel_rfl) (by kernel_rfl) (by kernel_rfl) (fun _ _ _ h => h) (Or.inr ⟨by rfl, rfl⟩) (by assumption) ?_
      (try simp only [List.setIfInBounds_toArray, List.set_cons_zero, List.set_cons_succ])
      refine takx (i := 24) (D := 106) (v := undef) rfl rfl (by kernel_rfl) (by kernel_rfl) (by kernel_rfl) (fun _ _ _ h => h) (Or.inr ⟨by rfl, rfl⟩) (by assumption) ?_
      (try simp only [List.setIfInBounds_toArray, List.set_cons_zero, List.set_cons_succ])
      refine takx (i := 25) (D := 107) (v := undef) rfl rfl (by kernel_rfl) (by kernel_rfl) (by kernel_rfl) (fun _ _ _ h => h) (Or.inr ⟨by rfl, rfl⟩) (by assumption) ?_
      (try simp only [List.setIfInBounds_toArray, List.set_cons_zero, List.set_cons_succ])
      refine takx (i := 26) (D := 108) (v := undef) rfl rfl (by kernel_rfl) (by kernel_rfl) (by kernel_rfl) (fun _ _ _ h => h) (Or.inr ⟨by rfl, rfl⟩) (by assumption) ?_
      (try simp only [List.setIfInBounds_toArray, List.set_cons_zero, List.set_cons_succ])
      refine takx (i := 27) (D := 109) (v := .bool true) rfl rfl (by kernel_rfl) (by kernel_rfl) (by kernel_rfl) (fun _ _ _ h => h) (Or.inl ⟨by rfl, fun W hSw => by (try dsimp only at hSw); go_simp⟩) (by assumption) ?_
      (try simp only [List.setIfInBounds_toArray, List.set_cons_zero, List.set_cons_succ])
      refine takx (i := 28) (D := 6) (v := .bool true) rfl rfl (by kernel_rfl) (by kernel_rfl) (by kernel_rfl) (fun _ _ _ h => h) (Or.inl ⟨by rfl, fun W hSw => by (try dsimp only at hSw); go_simp⟩) (by assumption) ?_
      (try simp only [List.setIfInBounds_toArray, List.set_cons_zero, List.set_cons_succ])
      refine wpAnyH_done (by kernel_rfl) ?_ _
      go_wp2_with fail
      go_ret
      exact ⟨rfl, bw⟩
    have t1 : ((j : Int) == (i : Int)) = false := by simp; omega
    obtain ⟨hnj, hdd⟩ : n ≤ j ∧ dist y q < dist p q := by
      rcases HM.out with h | ⟨h1, h2⟩
      · exact absurd h hji
      · rw [HR.out.1] at h1
        exact ⟨h1, h2⟩
    have t2 : (n : Int) ≤ (j : Int) := by omega
    have hd : decide (dist y q < dist p q) = true := by simpa using hdd
    go_upto_region 10 with fail
    refine wp_region_held_drew (S := fun w' => w'.cell? ⟨w.heap.size, 0, none⟩ = some (.int .i64 q.a) ∧ w'.cell? ⟨w.heap.size, 1, none⟩ = some (.int .i64 q.b) ∧ w'.cell? ⟨w.heap.size, 2, none⟩ = some (.int .i64 q.c) ∧ w'.cell? ⟨w.heap.size, 3, none⟩ = some (.int .i64 q.d) ∧ w'.cell? ⟨bj, oj + j * 4, none⟩ = some (.int .i64 y.a) ∧ w'.cell? ⟨bj, oj + j * 4 + 1, none⟩ = some (.int .i64 y.b) ∧ w'.cell? ⟨bj, oj + j * 4 + 2, none⟩ = some (.int .i64 y.c) ∧ w'.cell? ⟨bj, oj + j * 4 + 3, none⟩ = some (.int .i64 y.d) ∧ w'.cell? ⟨b, off + i * 4, none⟩ = some (.int .i64 p.a) ∧ w'.cell? ⟨b, off + i * 4 + 1, none⟩ = some (.int .i64 p.b) ∧ w'.cell? ⟨b, off + i * 4 + 2, none⟩ = some (.int .i64 p.c) ∧ w'.cell? ⟨b, off + i * 4 + 3, none⟩ = some (.int .i64 p.d)) (by kernel_rfl) ⟨(q4c k_c).1.1, (q4c k_c).1.2.1, (q4c k_c).1.2.2.1, (q4c k_c).1.2.2.2, (by assumption), (by assumption), (by assumption), (by assumption), (by assumption), (by assumption), (by assumption), (by assumption)⟩ ?_
    intro hHeld
    obtain ⟨X10, eX, bc⟩ : ∃ X, X = W8.drew ∧ Below W8.heap.size W8 X := ⟨_, rfl, (Below.refl _ _).drew⟩
    rw [← eX] at hHeld ⊢
    replace k_c := bk bc k_c
    replace bw := bs bc bw
    clear eX bc
    refine takx (i := 0) (D := 82) (v := .int .i64 j) rfl rfl (by kernel_rfl) (by kernel_rfl) (by kernel_rfl) (fun _ _ _ h => h) (Or.inl ⟨by rfl, fun W hSw => by (try dsimp only at hSw); go_simp⟩) (by assumption) ?_
    (try simp only [List.setIfInBounds_toArray, List.set_cons_zero, List.set_cons_succ])
    refine takx (i := 1) (D := 83) (v := .int .i64 i) rfl rfl (by kernel_rfl) (by kernel_rfl) (by kernel_rfl) (fun _ _ _ h => h) (Or.inl ⟨by rfl, fun W hSw => by (try dsimp only at hSw); go_simp⟩) (by assumption) ?_
    (try simp only [List.setIfInBounds_toArray, List.set_cons_zero, List.set_cons_succ])
    refine takx (i := 2) (D := 84) (v := .bool false) rfl rfl (by kernel_rfl) (by kernel_rfl) (by kernel_rfl) (fun _ _ _ h => h) (Or.inl ⟨by rfl, fun W hSw => by (try dsimp only at hSw); go_simp⟩) (by assumption) ?_
    (try simp only [List.setIfInBounds_toArray, List.set_cons_zero, List.set_cons_succ])
    refine takx (i := 3) (D := 85) (v := .bool false) rfl rfl (by kernel_rfl) (by kernel_rfl) (by kernel_rfl) (fun _ _ _ h => h) (Or.inl ⟨by rfl, fun W hSw => by (try dsimp only at hSw); go_simp⟩) (by assumption) ?_
    (try simp only [List.setIfInBounds_toArray, List.set_cons_zero, List.set_cons_succ])
    refine takx (i := 4) (D := 86) (v := .int .i64 j) rfl rfl (by kernel_rfl) (by kernel_rfl) (by kernel_rfl) (fun _ _ _ h => h) (Or.inl ⟨by rfl, fun W hSw => by (try dsimp only at hSw); go_simp⟩) (by assumption) ?_
    (try simp only [List.setIfInBounds_toArray, List.set_cons_zero, List.set_cons_succ])
    refine takx (i := 5) (D := 87) (v := .slice (some ⟨b, off, none⟩) n cp) rfl rfl (by kernel_rfl) (by kernel_rfl) (by kernel_rfl) (fun _ _ _ h => h) (Or.inl ⟨by rfl, fun W hSw => by (try dsimp only at hSw); go_simp⟩) (by assumption) ?_
    (try simp only [List.setIfInBounds_toArray, List.set_cons_zero, List.set_cons_succ])
    refine takx (i := 6) (D := 88) (v := .int .i64 n) rfl rfl (by kernel_rfl) (by kernel_rfl) (by kernel_rfl) (fun _ _ _ h => h) (Or.inl ⟨by rfl, fun W hSw => by (try dsimp only at hSw); go_simp⟩) (by assumption) ?_
    (try simp only [List.setIfInBounds_toArray, List.set_cons_zero, List.set_cons_succ])
    refine takx (i := 7) (D := 89) (v := .bool true) rfl rfl (by kernel_rfl) (by kernel_rfl) (by kernel_rfl) (fun _ _ _ h => h) (Or.inl ⟨by rfl, fun W hSw => by (try dsimp only at hSw); go_simp⟩) (by assumption) ?_
    (try simp only [List.setIfInBounds_toArray, List.set_cons_zero, List.set_cons_succ])
    refine takx (i := 8) (D := 90) (v := .bool true) rfl rfl (by kernel_rfl) (by kernel_rfl) (by kernel_rfl) (fun _ _ _ h => h) (Or.inl ⟨by rfl, fun W hSw => by (try dsimp only at hSw); go_simp⟩) (by assumption) ?_
    (try simp only [List.setIfInBounds_toArray, List.set_cons_zero, List.set_cons_succ])
    refine takx (i := 9) (D := 91) (v := .slice (some ⟨bj, oj, none⟩) nm cJ) rfl rfl (by kernel_rfl) (by kernel_rfl) (by kernel_rfl) (fun _ _ _ h => h) (Or.inl ⟨by rfl, fun W hSw => by (try dsimp only at hSw); go_simp⟩) (by assumption) ?_
    (try simp only [List.setIfInBounds_toArray, List.set_cons_zero, List.set_cons_succ])
    refine takx (i := 10) (D := 92) (v := .int .i64 j) rfl rfl (by kernel_rfl) (by kernel_rfl) (by kernel_rfl) (fun _ _ _ h => h) (Or.inl ⟨by rfl, fun W hSw => by (try dsimp only at hSw); go_simp⟩) (by assumption) ?_
    (try simp only [List.setIfInBounds_toArray, List.set_cons_zero, List.set_cons_succ])
    refine takx (i := 11) (D := 93) (v := .pointer (some ⟨bj, oj + j * 4, none⟩)) rfl rfl (by kernel_rfl) (by kernel_rfl) (by kernel_rfl) (fun _ _ _ h => h) (Or.inl ⟨by rfl, fun W hSw => by (try dsimp only at hSw); go_simp⟩) (by assumption) ?_
    (try simp only [List.setIfInBounds_toArray, List.set_cons_zero, List.set_cons_succ])
    refine takx (i := 12) (D := 94) (v := .agg #[.int .i64 y.a, .int .i64 y.b, .int .i64 y.c, .int .i64 y.d]) rfl rfl (by kernel_rfl) (by kernel_rfl) (by kernel_rfl) (fun _ _ _ h => h) (Or.inl ⟨by rfl, fun W hSw => by (try dsimp only at hSw); go_simp⟩) (by assumption) ?_
    (try simp only [List.setIfInBounds_toArray, List.set_cons_zero, List.set_cons_succ])
    refine takx (i := 14) (D := 96) (v := .agg #[.int .i64 q.a, .int .i64 q.b, .int .i64 q.c, .int .i64 q.d]) rfl rfl (by kernel_rfl) (by kernel_rfl) (by kernel_rfl) (fun _ _ _ h => h) (Or.inl ⟨by rfl, fun W hSw => by (try dsimp only at hSw); go_simp⟩) (by assumption) ?_
    (try simp only [List.setIfInBounds_toArray, List.set_cons_zero, List.set_cons_succ])
    refine takx (i := 17) (D := 99) (v := .slice (some ⟨b, off, none⟩) n cp) rfl rfl (by kernel_rfl) (by kernel_rfl) (by kernel_rfl) (fun _ _ _ h => h) (Or.inl ⟨by rfl, fun W hSw => by (try dsimp only at hSw); go_simp⟩) (by assumption) ?_
    (try simp only [List.setIfInBounds_toArray, List.set_cons_zero, List.set_cons_succ])
    refine takx (i := 18) (D := 100) (v := .int .i64 i) rfl rfl (by kernel_rfl) (by kernel_rfl) (by kernel_rfl) (fun _ _ _ h => h) (Or.inl ⟨by rfl, fun W hSw => by (try dsimp only at hSw); go_simp⟩) (by assumption) ?_
    (try simp only [List.setIfInBounds_toArray, List.set_cons_zero, List.set_cons_succ])
    refine takx (i := 19) (D := 101) (v := .pointer (some ⟨b, off + i * 4, none⟩)) rfl rfl (by kernel_rfl) (by kernel_rfl) (by kernel_rfl) (fun _ _ _ h => h) (Or.inl ⟨by rfl, fun W hSw => by (try dsimp only at hSw); go_simp⟩) (by assumption) ?_
    (try simp only [List.setIfInBounds_toArray, List.set_cons_zero, List.set_cons_succ])
    refine takx (i := 20) (D := 102) (v := .agg #[.int .i64 p.a, .int .i64 p.b, .int .i64 p.c, .int .i64 p.d]) rfl rfl (by kernel_rfl) (by kernel_rfl) (by kernel_rfl) (fun _ _ _ h => h) (Or.inl ⟨by rfl, fun W hSw => by (try dsimp only at hSw); go_simp⟩) (by assumption) ?_
    (try simp only [List.setIfInBounds_toArray, List.set_cons_zero, List.set_cons_succ])
    refine takx (i := 22) (D := 104) (v := .agg #[.int .i64 q.a, .int .i64 q.b, .int .i64 q.c, .int .i64 q.d]) rfl rfl (by kernel_rfl) (by kernel_rfl) (by kernel_rfl) (fun _ _ _ h => h) (Or.inl ⟨by rfl, fun W hSw => by (try dsimp only at hSw); go_simp⟩) (by assumption) ?_
    (try simp only [List.setIfInBounds_toArray, List.set_cons_zero, List.set_cons_succ])
    refine wpAnyH_ready (rs := [13]) (by kernel_rfl) (by simp) ?_
    refine (AllReadyH.cons rfl (fun K hK => ?_) AllReadyH.nil)
    go_simp
    refine (toColor4 y.a y.b y.c y.d _).mono ?_
    rintro e X11 ⟨rfl, bc⟩
    refine hK.out _ _ ⟨ck bc hHeld.1, ck bc hHeld.2.1, ck bc hHeld.2.2.1, ck bc hHeld.2.2.2.1, ck bc hHeld.2.2.2.2.1, ck bc hHeld.2.2.2.2.2.1, ck bc hHeld.2.2.2.2.2.2.1, ck bc hHeld.2.2.2.2.2.2.2.1, ck bc hHeld.2.2.2.2.2.2.2.2.1, ck bc hHeld.2.2.2.2.2.2.2.2.2.1, ck bc hHeld.2.2.2.2.2.2.2.2.2.2.1, ck bc hHeld.2.2.2.2.2.2.2.2.2.2.2⟩ (fun hHeld => ?_)
    clear hK K
    (try simp only [List.setIfInBounds_toArray, List.set_cons_zero, List.set_cons_succ])
    replace k_c := bk bc k_c
    replace bw := bs bc bw
    clear bc
    refine wpAnyH_ready (rs := [15]) (by kernel_rfl) (by simp) ?_
    refine (AllReadyH.cons rfl (fun K hK => ?_) AllReadyH.nil)
    go_simp
    refine (toColor4 q.a q.b q.c q.d _).mono ?_
    rintro e X12 ⟨rfl, bc⟩
    refine hK.out _ _ ⟨ck bc hHeld.1, ck bc hHeld.2.1, ck bc hHeld.2.2.1, ck bc hHeld.2.2.2.1, ck bc hHeld.2.2.2.2.1, ck bc hHeld.2.2.2.2.2.1, ck bc hHeld.2.2.2.2.2.2.1, ck bc hHeld.2.2.2.2.2.2.2.1, ck bc hHeld.2.2.2.2.2.2.2.2.1, ck bc hHeld.2.2.2.2.2.2.2.2.2.1, ck bc hHeld.2.2.2.2.2.2.2.2.2.2.1, ck bc hHeld.2.2.2.2.2.2.2.2.2.2.2⟩ (fun hHeld => ?_)
    clear hK K
    (try simp only [List.setIfInBounds_toArray, List.set_cons_zero, List.set_cons_succ])
    replace k_c := bk bc k_c
    replace bw := bs bc bw
    clear bc
    refine wpAnyH_ready (rs := [16]) (by kernel_rfl) (by simp) ?_
    refine (AllReadyH.cons rfl (fun K hK => ?_) AllReadyH.nil)
    go_simp
    refine (far4 y q HY.out HQ.out _).mono ?_
    rintro e X13 ⟨rfl, bc⟩
    refine hK.out _ _ ⟨ck bc hHeld.1, ck bc hHeld.2.1, ck bc hHeld.2.2.1, ck bc hHeld.2.2.2.1, ck bc hHeld.2.2.2.2.1, ck bc hHeld.2.2.2.2.2.1, ck bc hHeld.2.2.2.2.2.2.1, ck bc hHeld.2.2.2.2.2.2.2.1, ck bc hHeld.2.2.2.2.2.2.2.2.1, ck bc hHeld.2.2.2.2.2.2.2.2.2.1, ck bc hHeld.2.2.2.2.2.2.2.2.2.2.1, ck bc hHeld.2.2.2.2.2.2.2.2.2.2.2⟩ (fun hHeld => ?_)
    clear hK K
    (try simp only [List.setIfInBounds_toArray, List.set_cons_zero, List.set_cons_succ])
    replace k_c := bk bc k_c
    replace bw := bs bc bw
    clear bc
    refine wpAnyH_ready (rs := [21]) (by kernel_rfl) (by simp) ?_
    refine (AllReadyH.cons rfl (fun K hK => ?_) AllReadyH.nil)
    go_simp
    refine (toColor4 p.a p.b p.c p.d _).mono ?_
    rintro e X14 ⟨rfl, bc⟩
    refine hK.out _ _ ⟨ck bc hHeld.1, ck bc hHeld.2.1, ck bc hHeld.2.2.1, ck bc hHeld.2.2.2.1, ck bc hHeld.2.2.2.2.1, ck bc hHeld.2.2.2.2.2.1, ck bc hHeld.2.2.2.2.2.2.1, ck bc hHeld.2.2.2.2.2.2.2.1, ck bc hHeld.2.2.2.2.2.2.2.2.1, ck bc hHeld.2.2.2.2.2.2.2.2.2.1, ck bc hHeld.2.2.2.2.2.2.2.2.2.2.1, ck bc hHeld.2.2.2.2.2.2.2.2.2.2.2⟩ (fun hHeld => ?_)
    clear hK K
    (try simp only [List.setIfInBounds_toArray, List.set_cons_zero, List.set_cons_succ])
    replace k_c := bk bc k_c
    replace bw := bs bc bw
    clear bc
    refine wpAnyH_ready (rs := [23]) (by kernel_rfl) (by simp) ?_
    refine (AllReadyH.cons rfl (fun K hK => ?_) AllReadyH.nil)
    go_simp
    refine (toColor4 q.a q.b q.c q.d _).mono ?_
    rintro e X15 ⟨rfl, bc⟩
    refine hK.out _ _ ⟨ck bc hHeld.1, ck bc hHeld.2.1, ck bc hHeld.2.2.1, ck bc hHeld.2.2.2.1, ck bc hHeld.2.2.2.2.1, ck bc hHeld.2.2.2.2.2.1, ck bc hHeld.2.2.2.2.2.2.1, ck bc hHeld.2.2.2.2.2.2.2.1, ck bc hHeld.2.2.2.2.2.2.2.2.1, ck bc hHeld.2.2.2.2.2.2.2.2.2.1, ck bc hHeld.2.2.2.2.2.2.2.2.2.2.1, ck bc hHeld.2.2.2.2.2.2.2.2.2.2.2⟩ (fun hHeld => ?_)
    clear hK K
    (try simp only [List.setIfInBounds_toArray, List.set_cons_zero, List.set_cons_succ])
    replace k_c := bk bc k_c
    replace bw := bs bc bw
    clear bc
    refine wpAnyH_ready (rs := [24]) (by kernel_rfl) (by simp) ?_
    refine (AllReadyH.cons rfl (fun K hK => ?_) AllReadyH.nil)
    go_simp
    refine (far4 p q HP.out HQ.out _).mono ?_
    rintro e X16 ⟨rfl, bc⟩
    refine hK.out _ _ ⟨ck bc hHeld.1, ck bc hHeld.2.1, ck bc hHeld.2.2.1, ck bc hHeld.2.2.2.1, ck bc hHeld.2.2.2.2.1, ck bc hHeld.2.2.2.2.2.1, ck bc hHeld.2.2.2.2.2.2.1, ck bc hHeld.2.2.2.2.2.2.2.1, ck bc hHeld.2.2.2.2.2.2.2.2.1, ck bc hHeld.2.2.2.2.2.2.2.2.2.1, ck bc hHeld.2.2.2.2.2.2.2.2.2.2.1, ck bc hHeld.2.2.2.2.2.2.2.2.2.2.2⟩ (fun hHeld => ?_)
    clear hK K
    (try simp only [List.setIfInBounds_toArray, List.set_cons_zero, List.set_cons_succ])
    replace k_c := bk bc k_c
    replace bw := bs bc bw
    clear bc
    refine takx (i := 25) (D := 107) (v := .bool true) rfl rfl (by kernel_rfl) (by kernel_rfl) (by kernel_rfl) (fun _ _ _ h => h) (Or.inl ⟨by rfl, fun W hSw => by (try dsimp only at hSw); go_simp⟩) (by assumption) ?_
    (try simp only [List.setIfInBounds_toArray, List.set_cons_zero, List.set_cons_succ])
    refine takx (i := 26) (D := 108) (v := .bool true) rfl rfl (by kernel_rfl) (by kernel_rfl) (by kernel_rfl) (fun _ _ _ h => h) (Or.inl ⟨by rfl, fun W hSw => by (try dsimp only at hSw); go_simp⟩) (by assumption) ?_
    (try simp only [List.setIfInBounds_toArray, List.set_cons_zero, List.set_cons_succ])
    refine takx (i := 27) (D := 109) (v := .bool true) rfl rfl (by kernel_rfl) (by kernel_rfl) (by kernel_rfl) (fun _ _ _ h => h) (Or.inl ⟨by rfl, fun W hSw => by (try dsimp only at hSw); go_simp⟩) (by assumption) ?_
    (try simp only [List.setIfInBounds_toArray, List.set_cons_zero, List.set_cons_succ])
    refine takx (i := 28) (D := 6) (v := .bool true) rfl rfl (by kernel_rfl) (by kernel_rfl) (by kernel_rfl) (fun _ _ _ h => h) (Or.inl ⟨by rfl, fun W hSw => by (try dsimp only at hSw); go_simp⟩) (by assumption) ?_
    (try simp only [List.setIfInBounds_toArray, List.set_cons_zero, List.set_cons_succ])
    refine wpAnyH_done (by kernel_rfl) ?_ _
    go_wp2_with fail
    go_ret
    exact ⟨rfl, bw⟩

end Go.Proofs.Ytbhccckfooobcaa

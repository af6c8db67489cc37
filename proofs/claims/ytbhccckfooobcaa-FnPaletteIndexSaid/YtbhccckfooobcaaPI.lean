/-
  The walk of the law FnPaletteIndex. No condition.
-/
import Derived.Test.YtbhccckfooobcaaP9
namespace Go.Proofs.Ytbhccckfooobcaa
open Go.ChangeShapes Go.WideShapes Go.ChangeAt Go.RowKit
set_option linter.unusedVariables false
set_option linter.unusedSimpArgs false

set_option maxRecDepth 100000 in
set_option maxHeartbeats 8000000 in
theorem fnPaletteIndex_walk (w : World) (A : Option Addr) (n cp : Nat) (qs : List Q4) (hr : RdQuads w w.heap.size A n qs) (q : Q4) (hq : q.ok) :
    Calls Try.prog 8 #[.slice A n cp, q.val] w fun e w' => e = .returned (.bool true) ∧ Below w.heap.size w w' := by
  show Calls Try.prog 8 #[.slice A n cp, .agg #[.int .i64 q.a, .int .i64 q.b, .int .i64 q.c, .int .i64 q.d]] w _
  have HR := Lib.hid hr
  have HQ := Lib.hid hq
  have hn : n * 32 ≤ 140737488355328 := hr.2.1
  have hqd : I64 q.d := hq.2.2.2
  clear hr hq
  by_cases h0 : 0 < n
  case neg =>
    have hz : ((n : Int) == 0) = true := by simp; omega
    go_enter Try.func8, Try.ntmps8
    go_wp2
    go_ret
    exact ⟨rfl, bsa (Below.refl _ _)⟩
  have hz : ((n : Int) == 0) = false := by simp; omega
  obtain ⟨b, off, rfl, hbw, _⟩ := HR.out.2.2.2 h0
  by_cases hO : Opq qs
  case neg =>
    have HO := Lib.hid hO
    clear hO
    go_enter Try.func8, Try.ntmps8
    have b0 : Below w.heap.size w (w.alloc (.cells #[.int .i64 q.a, .int .i64 q.b, .int .i64 q.c, .int .i64 q.d] 23)) := bsa (Below.refl _ _)
    go_wp2_with fail
    refine (opq_no n cp (some ⟨b, off, none⟩) qs _ ((HR.out.below b0).more b0.size) HO.out).mono ?_
    rintro e w1 ⟨rfl, bc⟩
    have bw := bs bc b0
    have k_c := bk bc (heap_alloc_new w _)
    clear bc b0
    go_wp2
    go_ret
    exact ⟨rfl, bw⟩
  have HO := Lib.hid hO
  clear hO
  by_cases h255 : q.d % 256 = 255
  case neg =>
    have h5 : (q.d % 256 != 255) = true := by simp [h255]
    clear h255
    go_enter Try.func8, Try.ntmps8
    have b0 : Below w.heap.size w (w.alloc (.cells #[.int .i64 q.a, .int .i64 q.b, .int .i64 q.c, .int .i64 q.d] 23)) := bsa (Below.refl _ _)
    go_wp2_with fail
    refine (opq_yes n cp (some ⟨b, off, none⟩) qs _ ((HR.out.below b0).more b0.size) HO.out).mono ?_
    rintro e w1 ⟨rfl, bc⟩
    have bw := bs bc b0
    have k_c := bk bc (heap_alloc_new w _)
    clear bc b0
    obtain ⟨⟨_, _, _, qd⟩, _⟩ := q4c k_c
    go_wp2_with fail
    refine (low_any q.d hqd _).mono ?_
    rintro e _ ⟨rfl, rfl⟩
    clear qd
    go_wp2
    go_ret
    exact ⟨rfl, bw⟩
  have h5 : (q.d % 256 != 255) = false := by simp [h255]
  have H5 := Lib.hid h255
  clear h255
  go_enter Try.func8, Try.ntmps8
  have b0 : Below w.heap.size w (w.alloc (.cells #[.int .i64 q.a, .int .i64 q.b, .int .i64 q.c, .int .i64 q.d] 23)) := bsa (Below.refl _ _)
  go_wp2_with fail
  refine (opq_yes n cp (some ⟨b, off, none⟩) qs _ ((HR.out.below b0).more b0.size) HO.out).mono ?_
  rintro e w1 ⟨rfl, bc⟩
  have bw := bs bc b0
  have k_c := bk bc (heap_alloc_new w _)
  clear bc b0
  obtain ⟨⟨_, _, _, qd⟩, _⟩ := q4c k_c
  go_wp2_with fail
  refine (low_any q.d hqd _).mono ?_
  rintro e _ ⟨rfl, rfl⟩
  clear qd
  go_upto_region 3 with fail
  refine wp_region_held_drew (S := fun w' => w'.cell? ⟨w.heap.size, 0, none⟩ = some (.int .i64 q.a) ∧ w'.cell? ⟨w.heap.size, 1, none⟩ = some (.int .i64 q.b) ∧ w'.cell? ⟨w.heap.size, 2, none⟩ = some (.int .i64 q.c) ∧ w'.cell? ⟨w.heap.size, 3, none⟩ = some (.int .i64 q.d)) (by kernel_rfl) ⟨(q4c k_c).1.1, (q4c k_c).1.2.1, (q4c k_c).1.2.2.1, (q4c k_c).1.2.2.2⟩ ?_
  intro hHeld
  obtain ⟨X0, eX, bc⟩ : ∃ X, X = w1.drew ∧ Below w1.heap.size w1 X := ⟨_, rfl, (Below.refl _ _).drew⟩
  rw [← eX] at hHeld ⊢
  replace k_c := bk bc k_c
  replace bw := bs bc bw
  (try replace r1 := (r1.below bc).more bc.size)
  clear eX bc
  refine takx (i := 0) (D := 24) (v := .slice (some ⟨b, off, none⟩) n cp) rfl rfl (by kernel_rfl) (by kernel_rfl) (by kernel_rfl) (fun _ _ _ h => h) (Or.inl ⟨by rfl, fun W hSw => by (try dsimp only at hSw); go_simp⟩) (by assumption) ?_
  (try simp only [List.setIfInBounds_toArray, List.set_cons_zero, List.set_cons_succ])
  refine takx (i := 2) (D := 26) (v := .agg #[.int .i64 q.a, .int .i64 q.b, .int .i64 q.c, .int .i64 q.d]) rfl rfl (by kernel_rfl) (by kernel_rfl) (by kernel_rfl) (fun _ _ _ h => h) (Or.inl ⟨by rfl, fun W hSw => by (try dsimp only at hSw); go_simp⟩) (by assumption) ?_
  (try simp only [List.setIfInBounds_toArray, List.set_cons_zero, List.set_cons_succ])
  refine wpAnyH_ready (rs := [1]) (by kernel_rfl) (by simp) ?_
  refine (AllReadyH.cons rfl (fun K hK => ?_) AllReadyH.nil)
  go_simp
  refine (toColors_any n cp (some ⟨b, off, none⟩) qs _ ((HR.out.below bw).more bw.size)).mono ?_
  rintro e X1 ⟨A1, cp1, rfl, r1, lo1, bc⟩
  refine hK.out _ _ ⟨ck bc hHeld.1, ck bc hHeld.2.1, ck bc hHeld.2.2.1, ck bc hHeld.2.2.2⟩ (fun hHeld => ?_)
  clear hK K
  (try simp only [List.setIfInBounds_toArray, List.set_cons_zero, List.set_cons_succ])
  replace k_c := bk bc k_c
  replace bw := bs bc bw
  (try replace r1 := (r1.below bc).more bc.size)
  clear bc
  refine wpAnyH_ready (rs := [3]) (by kernel_rfl) (by simp) ?_
  refine (AllReadyH.cons rfl (fun K hK => ?_) AllReadyH.nil)
  go_simp
  refine (toColor4 q.a q.b q.c q.d _).mono ?_
  rintro e X2 ⟨rfl, bc⟩
  refine hK.out _ _ ⟨ck bc hHeld.1, ck bc hHeld.2.1, ck bc hHeld.2.2.1, ck bc hHeld.2.2.2⟩ (fun hHeld => ?_)
  clear hK K
  (try simp only [List.setIfInBounds_toArray, List.set_cons_zero, List.set_cons_succ])
  replace k_c := bk bc k_c
  replace bw := bs bc bw
  (try replace r1 := (r1.below bc).more bc.size)
  clear bc
  refine wpAnyH_ready (rs := [4]) (by kernel_rfl) (by simp) ?_
  refine (AllReadyH.cons rfl (fun K hK => ?_) AllReadyH.nil)
  go_simp
  refine (palIndex4 n cp1 A1 qs (q.a) (q.b) (q.c) (q.d) _ r1).mono ?_
  rintro e X3 ⟨i, rfl, hf0, bc⟩
  refine hK.out _ _ ⟨ck bc hHeld.1, ck bc hHeld.2.1, ck bc hHeld.2.2.1, ck bc hHeld.2.2.2⟩ (fun hHeld => ?_)
  clear hK K
  (try simp only [List.setIfInBounds_toArray, List.set_cons_zero, List.set_cons_succ])
  replace k_c := bk bc k_c
  replace bw := bs bc bw
  (try replace r1 := (r1.below bc).more bc.size)
  have Fi := Lib.hid hf0
  clear hf0
  clear bc
  refine takx (i := 5) (D := 5) (v := .int .i64 i) rfl rfl (by kernel_rfl) (by kernel_rfl) (by kernel_rfl) (fun _ _ _ h => h) (Or.inl ⟨by rfl, fun W hSw => by (try dsimp only at hSw); go_simp⟩) (by assumption) ?_
  (try simp only [List.setIfInBounds_toArray, List.set_cons_zero, List.set_cons_succ])
  refine wpAnyH_done (by kernel_rfl) ?_ _
  have Ni := Lib.hid (near_of_first H5.out HO.out Fi.out)
  have hi : i < n := by have := Ni.out.lt (by rw [HR.out.1]; exact h0); rwa [HR.out.1] at this
  have i1 : (i : Int) < (n : Int) := by omega
  have i2 : ¬ (n : Int) ≤ (i : Int) := by omega
  have i3 : ¬ (i : Int) < 0 := by omega
  have i0 : (0 : Int) ≤ (i : Int) := by omega
  have HP := Lib.hid (HR.out.2.2.1 _ (getD_mem qs i (by rw [HR.out.1]; exact hi)))
  have HPL := Lib.hid (show ∀ x ∈ qs, dist (qs.getD i default) q ≤ dist x q from fun x hx => Ni.out.least hx)
  generalize hp : qs.getD i default = p at HP HPL
  have HPE := Lib.hid hp
  clear hp
  clear hHeld r1
  have KC := Lib.hid k_c
  have BW := Lib.hid bw
  clear k_c bw
  go_wp2_with fail
  go_loopw [39, 7] (fun i _ wr => ∃ (k : Nat), k ≤ n ∧ i = .int .i64 k ∧ Hid (Below w.heap.size w wr) ∧ Hid (wr.heap[w.heap.size]? = some (.cells #[.int .i64 q.a, .int .i64 q.b, .int .i64 q.c, .int .i64 q.d] 23 (0, 0)))) (fun i _ _ => n - (intOf i).toNat)
  case atStart => exact ⟨0, by omega, rfl, BW, KC⟩
  case round =>
    obtain ⟨k, hk, rfl, HB, HC⟩ := hrel
    by_cases hlt : k < n
    · obtain ⟨x1, x2, x3, x4⟩ := (HR.out.below HB.out).at hlt
      have HX := Lib.hid (HR.out.2.2.1 _ (getD_mem qs k (by rw [HR.out.1]; exact hlt)))
      have hle := HPL.out _ (getD_mem qs k (by rw [HR.out.1]; exact hlt))
      generalize qs.getD k default = x at x1 x2 x3 x4 HX hle
      have hd : decide (dist x q < dist p q) = false := by simpa using hle
      go_upto_region 9 with fail
      obtain ⟨W, gx, hW, hgx⟩ : ∃ W g, W = wr.alloc (.cells #[.int .i64 x.a, .int .i64 x.b, .int .i64 x.c, .int .i64 x.d] 23) ∧ g = wr.heap.size := ⟨_, _, rfl, rfl⟩
      have bw : Below w.heap.size w W := by rw [hW]; exact bsa HB.out
      have k_c : W.heap[w.heap.size]? = some (.cells #[.int .i64 q.a, .int .i64 q.b, .int .i64 q.c, .int .i64 q.d] 23 (0, 0)) := by rw [hW]; exact bka HC.out
      have k_x : W.heap[gx]? = some (.cells #[.int .i64 x.a, .int .i64 x.b, .int .i64 x.c, .int .i64 x.d] 23 (0, 0)) := by rw [hW, hgx]; exact heap_alloc_new wr _
      rw [← hW, ← hgx]
      clear hW hgx x1 x2 x3 x4
      obtain ⟨e1, e2, e3, e4⟩ := (HR.out.below bw).at hi
      rw [HPE.out] at e1 e2 e3 e4
      refine wp_region_held_drew (S := fun w' => w'.cell? ⟨w.heap.size, 0, none⟩ = some (.int .i64 q.a) ∧ w'.cell? ⟨w.heap.size, 1, none⟩ = some (.int .i64 q.b) ∧ w'.cell? ⟨w.heap.size, 2, none⟩ = some (.int .i64 q.c) ∧ w'.cell? ⟨w.heap.size, 3, none⟩ = some (.int .i64 q.d) ∧ w'.cell? ⟨gx, 0, none⟩ = some (.int .i64 x.a) ∧ w'.cell? ⟨gx, 1, none⟩ = some (.int .i64 x.b) ∧ w'.cell? ⟨gx, 2, none⟩ = some (.int .i64 x.c) ∧ w'.cell? ⟨gx, 3, none⟩ = some (.int .i64 x.d) ∧ w'.cell? ⟨b, off + i * 4, none⟩ = some (.int .i64 p.a) ∧ w'.cell? ⟨b, off + i * 4 + 1, none⟩ = some (.int .i64 p.b) ∧ w'.cell? ⟨b, off + i * 4 + 2, none⟩ = some (.int .i64 p.c) ∧ w'.cell? ⟨b, off + i * 4 + 3, none⟩ = some (.int .i64 p.d)) (by kernel_rfl) ⟨(q4c k_c).1.1, (q4c k_c).1.2.1, (q4c k_c).1.2.2.1, (q4c k_c).1.2.2.2, (q4c k_x).1.1, (q4c k_x).1.2.1, (q4c k_x).1.2.2.1, (q4c k_x).1.2.2.2, (by assumption), (by assumption), (by assumption), (by assumption)⟩ ?_
      intro hHeld
      obtain ⟨X0, eX, bc⟩ : ∃ X, X = W.drew ∧ Below W.heap.size W X := ⟨_, rfl, (Below.refl _ _).drew⟩
      rw [← eX] at hHeld ⊢
      replace k_c := bk bc k_c
      replace k_x := bk bc k_x
      replace bw := bs bc bw
      clear eX bc
      refine takx (i := 0) (D := 43) (v := .agg #[.int .i64 x.a, .int .i64 x.b, .int .i64 x.c, .int .i64 x.d]) rfl rfl (by kernel_rfl) (by kernel_rfl) (by kernel_rfl) (fun _ _ _ h => h) (Or.inl ⟨by rfl, fun W hSw => by (try dsimp only at hSw); go_simp⟩) (by assumption) ?_
      (try simp only [List.setIfInBounds_toArray, List.set_cons_zero, List.set_cons_succ])
      refine takx (i := 2) (D := 45) (v := .agg #[.int .i64 q.a, .int .i64 q.b, .int .i64 q.c, .int .i64 q.d]) rfl rfl (by kernel_rfl) (by kernel_rfl) (by kernel_rfl) (fun _ _ _ h => h) (Or.inl ⟨by rfl, fun W hSw => by (try dsimp only at hSw); go_simp⟩) (by assumption) ?_
      (try simp only [List.setIfInBounds_toArray, List.set_cons_zero, List.set_cons_succ])
      refine takx (i := 5) (D := 48) (v := .slice (some ⟨b, off, none⟩) n cp) rfl rfl (by kernel_rfl) (by kernel_rfl) (by kernel_rfl) (fun _ _ _ h => h) (Or.inl ⟨by rfl, fun W hSw => by (try dsimp only at hSw); go_simp⟩) (by assumption) ?_
      (try simp only [List.setIfInBounds_toArray, List.set_cons_zero, List.set_cons_succ])
      refine takx (i := 6) (D := 49) (v := .int .i64 i) rfl rfl (by kernel_rfl) (by kernel_rfl) (by kernel_rfl) (fun _ _ _ h => h) (Or.inl ⟨by rfl, fun W hSw => by (try dsimp only at hSw); go_simp⟩) (by assumption) ?_
      (try simp only [List.setIfInBounds_toArray, List.set_cons_zero, List.set_cons_succ])
      refine takx (i := 7) (D := 50) (v := .pointer (some ⟨b, off + i * 4, none⟩)) rfl rfl (by kernel_rfl) (by kernel_rfl) (by kernel_rfl) (fun _ _ _ h => h) (Or.inl ⟨by rfl, fun W hSw => by (try dsimp only at hSw); go_simp⟩) (by assumption) ?_
      (try simp only [List.setIfInBounds_toArray, List.set_cons_zero, List.set_cons_succ])
      refine takx (i := 8) (D := 51) (v := .agg #[.int .i64 p.a, .int .i64 p.b, .int .i64 p.c, .int .i64 p.d]) rfl rfl (by kernel_rfl) (by kernel_rfl) (by kernel_rfl) (fun _ _ _ h => h) (Or.inl ⟨by rfl, fun W hSw => by (try dsimp only at hSw); go_simp⟩) (by assumption) ?_
      (try simp only [List.setIfInBounds_toArray, List.set_cons_zero, List.set_cons_succ])
      refine takx (i := 10) (D := 53) (v := .agg #[.int .i64 q.a, .int .i64 q.b, .int .i64 q.c, .int .i64 q.d]) rfl rfl (by kernel_rfl) (by kernel_rfl) (by kernel_rfl) (fun _ _ _ h => h) (Or.inl ⟨by rfl, fun W hSw => by (try dsimp only at hSw); go_simp⟩) (by assumption) ?_
      (try simp only [List.setIfInBounds_toArray, List.set_cons_zero, List.set_cons_succ])
      refine wpAnyH_ready (rs := [1]) (by kernel_rfl) (by simp) ?_
      refine (AllReadyH.cons rfl (fun K hK => ?_) AllReadyH.nil)
      go_simp
      refine (toColor4 x.a x.b x.c x.d _).mono ?_
      rintro e X1 ⟨rfl, bc⟩
      refine hK.out _ _ ⟨ck bc hHeld.1, ck bc hHeld.2.1, ck bc hHeld.2.2.1, ck bc hHeld.2.2.2.1, ck bc hHeld.2.2.2.2.1, ck bc hHeld.2.2.2.2.2.1, ck bc hHeld.2.2.2.2.2.2.1, ck bc hHeld.2.2.2.2.2.2.2.1, ck bc hHeld.2.2.2.2.2.2.2.2.1, ck bc hHeld.2.2.2.2.2.2.2.2.2.1, ck bc hHeld.2.2.2.2.2.2.2.2.2.2.1, ck bc hHeld.2.2.2.2.2.2.2.2.2.2.2⟩ (fun hHeld => ?_)
      clear hK K
      (try simp only [List.setIfInBounds_toArray, List.set_cons_zero, List.set_cons_succ])
      replace k_c := bk bc k_c
      replace k_x := bk bc k_x
      replace bw := bs bc bw
      clear bc
      refine wpAnyH_ready (rs := [3]) (by kernel_rfl) (by simp) ?_
      refine (AllReadyH.cons rfl (fun K hK => ?_) AllReadyH.nil)
      go_simp
      refine (toColor4 q.a q.b q.c q.d _).mono ?_
      rintro e X2 ⟨rfl, bc⟩
      refine hK.out _ _ ⟨ck bc hHeld.1, ck bc hHeld.2.1, ck bc hHeld.2.2.1, ck bc hHeld.2.2.2.1, ck bc hHeld.2.2.2.2.1, ck bc hHeld.2.2.2.2.2.1, ck bc hHeld.2.2.2.2.2.2.1, ck bc hHeld.2.2.2.2.2.2.2.1, ck bc hHeld.2.2.2.2.2.2.2.2.1, ck bc hHeld.2.2.2.2.2.2.2.2.2.1, ck bc hHeld.2.2.2.2.2.2.2.2.2.2.1, ck bc hHeld.2.2.2.2.2.2.2.2.2.2.2⟩ (fun hHeld => ?_)
      clear hK K
      (try simp only [List.setIfInBounds_toArray, List.set_cons_zero, List.set_cons_succ])
      replace k_c := bk bc k_c
      replace k_x := bk bc k_x
      replace bw := bs bc bw
      clear bc
      refine wpAnyH_ready (rs := [4]) (by kernel_rfl) (by simp) ?_
      refine (AllReadyH.cons rfl (fun K hK => ?_) AllReadyH.nil)
      go_simp
      refine (far4 x q HX.out HQ.out _).mono ?_
      rintro e X3 ⟨rfl, bc⟩
      refine hK.out _ _ ⟨ck bc hHeld.1, ck bc hHeld.2.1, ck bc hHeld.2.2.1, ck bc hHeld.2.2.2.1, ck bc hHeld.2.2.2.2.1, ck bc hHeld.2.2.2.2.2.1, ck bc hHeld.2.2.2.2.2.2.1, ck bc hHeld.2.2.2.2.2.2.2.1, ck bc hHeld.2.2.2.2.2.2.2.2.1, ck bc hHeld.2.2.2.2.2.2.2.2.2.1, ck bc hHeld.2.2.2.2.2.2.2.2.2.2.1, ck bc hHeld.2.2.2.2.2.2.2.2.2.2.2⟩ (fun hHeld => ?_)
      clear hK K
      (try simp only [List.setIfInBounds_toArray, List.set_cons_zero, List.set_cons_succ])
      replace k_c := bk bc k_c
      replace k_x := bk bc k_x
      replace bw := bs bc bw
      clear bc
      refine wpAnyH_ready (rs := [9]) (by kernel_rfl) (by simp) ?_
      refine (AllReadyH.cons rfl (fun K hK => ?_) AllReadyH.nil)
      go_simp
      refine (toColor4 p.a p.b p.c p.d _).mono ?_
      rintro e X4 ⟨rfl, bc⟩
      refine hK.out _ _ ⟨ck bc hHeld.1, ck bc hHeld.2.1, ck bc hHeld.2.2.1, ck bc hHeld.2.2.2.1, ck bc hHeld.2.2.2.2.1, ck bc hHeld.2.2.2.2.2.1, ck bc hHeld.2.2.2.2.2.2.1, ck bc hHeld.2.2.2.2.2.2.2.1, ck bc hHeld.2.2.2.2.2.2.2.2.1, ck bc hHeld.2.2.2.2.2.2.2.2.2.1, ck bc hHeld.2.2.2.2.2.2.2.2.2.2.1, ck bc hHeld.2.2.2.2.2.2.2.2.2.2.2⟩ (fun hHeld => ?_)
      clear hK K
      (try simp only [List.setIfInBounds_toArray, List.set_cons_zero, List.set_cons_succ])
      replace k_c := bk bc k_c
      replace k_x := bk bc k_x
      replace bw := bs bc bw
      clear bc
      refine wpAnyH_ready (rs := [11]) (by kernel_rfl) (by simp) ?_
      refine (AllReadyH.cons rfl (fun K hK => ?_) AllReadyH.nil)
      go_simp
      refine (toColor4 q.a q.b q.c q.d _).mono ?_
      rintro e X5 ⟨rfl, bc⟩
      refine hK.out _ _ ⟨ck bc hHeld.1, ck bc hHeld.2.1, ck bc hHeld.2.2.1, ck bc hHeld.2.2.2.1, ck bc hHeld.2.2.2.2.1, ck bc hHeld.2.2.2.2.2.1, ck bc hHeld.2.2.2.2.2.2.1, ck bc hHeld.2.2.2.2.2.2.2.1, ck bc hHeld.2.2.2.2.2.2.2.2.1, ck bc hHeld.2.2.2.2.2.2.2.2.2.1, ck bc hHeld.2.2.2.2.2.2.2.2.2.2.1, ck bc hHeld.2.2.2.2.2.2.2.2.2.2.2⟩ (fun hHeld => ?_)
      clear hK K
      (try simp only [List.setIfInBounds_toArray, List.set_cons_zero, List.set_cons_succ])
      replace k_c := bk bc k_c
      replace k_x := bk bc k_x
      replace bw := bs bc bw
      clear bc
      refine wpAnyH_ready (rs := [12]) (by kernel_rfl) (by simp) ?_
      refine (AllReadyH.cons rfl (fun K hK => ?_) AllReadyH.nil)
      go_simp
      refine (far4 p q HP.out HQ.out _).mono ?_
      rintro e X6 ⟨rfl, bc⟩
      refine hK.out _ _ ⟨ck bc hHeld.1, ck bc hHeld.2.1, ck bc hHeld.2.2.1, ck bc hHeld.2.2.2.1, ck bc hHeld.2.2.2.2.1, ck bc hHeld.2.2.2.2.2.1, ck bc hHeld.2.2.2.2.2.2.1, ck bc hHeld.2.2.2.2.2.2.2.1, ck bc hHeld.2.2.2.2.2.2.2.2.1, ck bc hHeld.2.2.2.2.2.2.2.2.2.1, ck bc hHeld.2.2.2.2.2.2.2.2.2.2.1, ck bc hHeld.2.2.2.2.2.2.2.2.2.2.2⟩ (fun hHeld => ?_)
      clear hK K
      (try simp only [List.setIfInBounds_toArray, List.set_cons_zero, List.set_cons_succ])
      replace k_c := bk bc k_c
      replace k_x := bk bc k_x
      replace bw := bs bc bw
      clear bc
      refine takx (i := 13) (D := 56) (v := .bool false) rfl rfl (by kernel_rfl) (by kernel_rfl) (by kernel_rfl) (fun _ _ _ h => h) (Or.inl ⟨by rfl, fun W hSw => by (try dsimp only at hSw); go_simp⟩) (by assumption) ?_
      (try simp only [List.setIfInBounds_toArray, List.set_cons_zero, List.set_cons_succ])
      refine wpAnyH_done (by kernel_rfl) ?_ _
      clear hHeld k_x e1 e2 e3 e4
      go_wp2
      go_roundw
      case rel => exact ⟨k + 1, by omega, by go_num, bw, k_c⟩
      case measure => simp [intOf]; omega
    · obtain rfl : k = n := by omega
      have bw := HB.out
      have k_c := HC.out
      go_upto_region 12 with fail
      go_cut [8, 9] (fun s8 s9 wx => ∃ (g j : Nat) (y : Q4), s8 = .pointer (some ⟨g, 0, none⟩) ∧ s9 = .bool true ∧ wx.heap[g]? = some (.cells #[.int .i64 (y.a % 256), .int .i64 (y.b % 256), .int .i64 (y.c % 256), .int .i64 (y.d % 256)] 25 (0, 0)) ∧ wx.heap[w.heap.size]? = some (.cells #[.int .i64 q.a, .int .i64 q.b, .int .i64 q.c, .int .i64 q.d] 23 (0, 0)) ∧ Hid (y = qs.getD j default) ∧ Hid (First (qs.map (sdist q)) j) ∧ Hid (Below w.heap.size w wx))
      case first =>
        refine wp_region_held_drew (S := fun w' => w'.cell? ⟨w.heap.size, 0, none⟩ = some (.int .i64 q.a) ∧ w'.cell? ⟨w.heap.size, 1, none⟩ = some (.int .i64 q.b) ∧ w'.cell? ⟨w.heap.size, 2, none⟩ = some (.int .i64 q.c) ∧ w'.cell? ⟨w.heap.size, 3, none⟩ = some (.int .i64 q.d)) (by kernel_rfl) ⟨(q4c k_c).1.1, (q4c k_c).1.2.1, (q4c k_c).1.2.2.1, (q4c k_c).1.2.2.2⟩ ?_
        intro hHeld
        obtain ⟨X0, eX, bc⟩ : ∃ X, X = wr.drew ∧ Below wr.heap.size wr X := ⟨_, rfl, (Below.refl _ _).drew⟩
        rw [← eX] at hHeld ⊢
        replace k_c := bk bc k_c
        replace bw := bs bc bw
        (try replace r1 := (r1.below bc).more bc.size)
        clear eX bc
        refine takx (i := 0) (D := 59) (v := .slice (some ⟨b, off, none⟩) k cp) rfl rfl (by kernel_rfl) (by kernel_rfl) (by kernel_rfl) (fun _ _ _ h => h) (Or.inl ⟨by rfl, fun W hSw => by (try dsimp only at hSw); go_simp⟩) (by assumption) ?_
        (try simp only [List.setIfInBounds_toArray, List.set_cons_zero, List.set_cons_succ])
        refine takx (i := 2) (D := 61) (v := .agg #[.int .i64 q.a, .int .i64 q.b, .int .i64 q.c, .int .i64 q.d]) rfl rfl (by kernel_rfl) (by kernel_rfl) (by kernel_rfl) (fun _ _ _ h => h) (Or.inl ⟨by rfl, fun W hSw => by (try dsimp only at hSw); go_simp⟩) (by assumption) ?_
        (try simp only [List.setIfInBounds_toArray, List.set_cons_zero, List.set_cons_succ])
        refine wpAnyH_ready (rs := [1, 8]) (by kernel_rfl) (by simp) ?_
        refine (AllReadyH.cons rfl (fun K hK => ?_) (AllReadyH.cons rfl (fun K hK => ?_) AllReadyH.nil))
        · go_simp
          refine (toColors_any k cp (some ⟨b, off, none⟩) qs _ ((HR.out.below bw).more bw.size)).mono ?_
          rintro e X1 ⟨A1, cp1, rfl, r1, lo1, bc⟩
          refine hK.out _ _ ⟨ck bc hHeld.1, ck bc hHeld.2.1, ck bc hHeld.2.2.1, ck bc hHeld.2.2.2⟩ (fun hHeld => ?_)
          clear hK K
          (try simp only [List.setIfInBounds_toArray, List.set_cons_zero, List.set_cons_succ])
          replace k_c := bk bc k_c
          replace bw := bs bc bw
          (try replace r1 := (r1.below bc).more bc.size)
          clear bc
          refine wpAnyH_ready (rs := [3, 8]) (by kernel_rfl) (by simp) ?_
          refine (AllReadyH.cons rfl (fun K hK => ?_) (AllReadyH.cons rfl (fun K hK => ?_) AllReadyH.nil))
          · go_simp
            refine (toColor4 q.a q.b q.c q.d _).mono ?_
            rintro e X2 ⟨rfl, bc⟩
            refine hK.out _ _ ⟨ck bc hHeld.1, ck bc hHeld.2.1, ck bc hHeld.2.2.1, ck bc hHeld.2.2.2⟩ (fun hHeld => ?_)
            clear hK K
            (try simp only [List.setIfInBounds_toArray, List.set_cons_zero, List.set_cons_succ])
            replace k_c := bk bc k_c
            replace bw := bs bc bw
            (try replace r1 := (r1.below bc).more bc.size)
            clear bc
            refine wpAnyH_ready (rs := [4, 8]) (by kernel_rfl) (by simp) ?_
            refine (AllReadyH.cons rfl (fun K hK => ?_) (AllReadyH.cons rfl (fun K hK => ?_) AllReadyH.nil))
            · go_simp
              refine (palConv4 k cp1 A1 qs (q.a) (q.b) (q.c) (q.d) _ r1 h0).mono ?_
              rintro e X3 ⟨j, y, rfl, hx0, hf0, bc⟩
              refine hK.out _ _ ⟨ck bc hHeld.1, ck bc hHeld.2.1, ck bc hHeld.2.2.1, ck bc hHeld.2.2.2⟩ (fun hHeld => ?_)
              clear hK K
              (try simp only [List.setIfInBounds_toArray, List.set_cons_zero, List.set_cons_succ])
              replace k_c := bk bc k_c
              replace bw := bs bc bw
              (try replace r1 := (r1.below bc).more bc.size)
              have Hy := Lib.hid hx0
              have Fj := Lib.hid hf0
              clear hx0 hf0
              clear bc
              refine takx (i := 5) (D := 58) (v := .tuple #[.agg #[.int .i64 (y.a % 256), .int .i64 (y.b % 256), .int .i64 (y.c % 256), .int .i64 (y.d % 256)], .bool true]) rfl rfl (by kernel_rfl) (by kernel_rfl) (by kernel_rfl) (fun _ _ _ h => h) (Or.inl ⟨by rfl, fun W hSw => by (try dsimp only at hSw); go_simp⟩) (by assumption) ?_
              (try simp only [List.setIfInBounds_toArray, List.set_cons_zero, List.set_cons_succ])
              refine takx (i := 6) (D := 64) (v := .agg #[.int .i64 (y.a % 256), .int .i64 (y.b % 256), .int .i64 (y.c % 256), .int .i64 (y.d % 256)]) rfl rfl (by kernel_rfl) (by kernel_rfl) (by kernel_rfl) (fun _ _ _ h => h) (Or.inl ⟨by rfl, fun W hSw => by (try dsimp only at hSw); go_simp⟩) (by assumption) ?_
              (try simp only [List.setIfInBounds_toArray, List.set_cons_zero, List.set_cons_succ])
              refine takx (i := 7) (D := 65) (v := .bool true) rfl rfl (by kernel_rfl) (by kernel_rfl) (by kernel_rfl) (fun _ _ _ h => h) (Or.inl ⟨by rfl, fun W hSw => by (try dsimp only at hSw); go_simp⟩) (by assumption) ?_
              (try simp only [List.setIfInBounds_toArray, List.set_cons_zero, List.set_cons_succ])
              refine wpAnyH_ready (rs := [8]) (by kernel_rfl) (by simp) ?_
              refine (AllReadyH.cons rfl (fun K hK => ?_) AllReadyH.nil)
              go_simp
              refine hK.out _ _ ⟨cka hHeld.1, cka hHeld.2.1, cka hHeld.2.2.1, cka hHeld.2.2.2⟩ (fun hHeld => ?_)
              clear hK K
              (try simp only [List.setIfInBounds_toArray, List.set_cons_zero, List.set_cons_succ])
              obtain ⟨X4, g4, eY, eg⟩ : ∃ Y g, Y = X3.alloc (.cells #[.int .i64 0, .int .i64 0, .int .i64 0, .int .i64 0] 25) ∧ g = X3.heap.size := ⟨_, _, rfl, rfl⟩
              rw [← eY, ← eg]
              rw [← eY] at hHeld
              have bc : Below X3.heap.size X3 X4 := by rw [eY]; exact (Below.refl _ _).alloc (Nat.le_refl _) _
              have k_n8 : X4.heap[g4]? = some (.cells #[.int .i64 0, .int .i64 0, .int .i64 0, .int .i64 0] 25 (0, 0)) := by rw [eY, eg]; exact heap_alloc_new X3 _
              have lo_n8 : w.heap.size ≤ g4 := by rw [eg]; exact bw.size
              have ne_c_n8 : ¬ w.heap.size = g4 := ne_new k_c eg
              replace k_c := bk bc k_c
              replace bw := bs bc bw
              (try replace r1 := (r1.below bc).more bc.size)
              clear bc eY eg
              refine wpAnyH_ready (rs := [9]) (by kernel_rfl) (by simp) ?_
              refine (AllReadyH.cons rfl (fun K hK => ?_) AllReadyH.nil)
              have qq := q4c k_n8
              go_simp
              clear qq
              refine hK.out _ _ ⟨(cks ne_c_n8 (cks ne_c_n8 (cks ne_c_n8 (cks ne_c_n8 hHeld.1)))), (cks ne_c_n8 (cks ne_c_n8 (cks ne_c_n8 (cks ne_c_n8 hHeld.2.1)))), (cks ne_c_n8 (cks ne_c_n8 (cks ne_c_n8 (cks ne_c_n8 hHeld.2.2.1)))), (cks ne_c_n8 (cks ne_c_n8 (cks ne_c_n8 (cks ne_c_n8 hHeld.2.2.2))))⟩ (fun hHeld => ?_)
              clear hK K
              (try simp only [List.setIfInBounds_toArray, List.set_cons_zero, List.set_cons_succ])
              obtain ⟨X5, eY⟩ : ∃ Y, Y = ((((X4.setCell ⟨g4, 0, none⟩ (.int .i64 (y.a % 256))).setCell ⟨g4, 1, none⟩ (.int .i64 (y.b % 256))).setCell ⟨g4, 2, none⟩ (.int .i64 (y.c % 256))).setCell ⟨g4, 3, none⟩ (.int .i64 (y.d % 256))) := ⟨_, rfl⟩
              rw [← eY] at hHeld ⊢
              replace k_c : X5.heap[w.heap.size]? = some (.cells #[.int .i64 q.a, .int .i64 q.b, .int .i64 q.c, .int .i64 q.d] 23 (0, 0)) := by rw [eY]; exact (bks ne_c_n8 (bks ne_c_n8 (bks ne_c_n8 (bks ne_c_n8 k_c))))
              replace bw : Below w.heap.size w X5 := by rw [eY]; exact (bss lo_n8 (bss lo_n8 (bss lo_n8 (bss lo_n8 bw))))
              replace k_n8 : X5.heap[g4]? = some (.cells #[.int .i64 (y.a % 256), .int .i64 (y.b % 256), .int .i64 (y.c % 256), .int .i64 (y.d % 256)] 25 (0, 0)) := by rw [eY]; exact q4s k_n8
              clear eY
              refine takx (i := 10) (D := 9) (v := .bool true) rfl rfl (by kernel_rfl) (by kernel_rfl) (by kernel_rfl) (fun _ _ _ h => h) (Or.inl ⟨by rfl, fun W hSw => by (try dsimp only at hSw); go_simp⟩) (by assumption) ?_
              (try simp only [List.setIfInBounds_toArray, List.set_cons_zero, List.set_cons_succ])
              refine wpAnyH_done (by kernel_rfl) ?_ _
              go_wp2_with fail
              go_meet
              exact ⟨_, j, y, rfl, rfl, k_n8, k_c, Hy, Fj, bw⟩
            · go_simp
              refine hK.out _ _ ⟨cka hHeld.1, cka hHeld.2.1, cka hHeld.2.2.1, cka hHeld.2.2.2⟩ (fun hHeld => ?_)
              clear hK K
              (try simp only [List.setIfInBounds_toArray, List.set_cons_zero, List.set_cons_succ])
              obtain ⟨X6, g6, eY, eg⟩ : ∃ Y g, Y = X2.alloc (.cells #[.int .i64 0, .int .i64 0, .int .i64 0, .int .i64 0] 25) ∧ g = X2.heap.size := ⟨_, _, rfl, rfl⟩
              rw [← eY, ← eg]
              rw [← eY] at hHeld
              have bc : Below X2.heap.size X2 X6 := by rw [eY]; exact (Below.refl _ _).alloc (Nat.le_refl _) _
              have k_n8 : X6.heap[g6]? = some (.cells #[.int .i64 0, .int .i64 0, .int .i64 0, .int .i64 0] 25 (0, 0)) := by rw [eY, eg]; exact heap_alloc_new X2 _
              have lo_n8 : w.heap.size ≤ g6 := by rw [eg]; exact bw.size
              have ne_c_n8 : ¬ w.heap.size = g6 := ne_new k_c eg
              replace k_c := bk bc k_c
              replace bw := bs bc bw
              (try replace r1 := (r1.below bc).more bc.size)
              clear bc eY eg
              refine wpAnyH_ready (rs := [4]) (by kernel_rfl) (by simp) ?_
              refine (AllReadyH.cons rfl (fun K hK => ?_) AllReadyH.nil)
              go_simp
              refine (palConv4 k cp1 A1 qs (q.a) (q.b) (q.c) (q.d) _ r1 h0).mono ?_
              rintro e X7 ⟨j, y, rfl, hx0, hf0, bc⟩
              refine hK.out _ _ ⟨ck bc hHeld.1, ck bc hHeld.2.1, ck bc hHeld.2.2.1, ck bc hHeld.2.2.2⟩ (fun hHeld => ?_)
              clear hK K
              (try simp only [List.setIfInBounds_toArray, List.set_cons_zero, List.set_cons_succ])
              replace k_c := bk bc k_c
              replace k_n8 := bk bc k_n8
              replace bw := bs bc bw
              (try replace r1 := (r1.below bc).more bc.size)
              have Hy := Lib.hid hx0
              have Fj := Lib.hid hf0
              clear hx0 hf0
              clear bc
              refine takx (i := 5) (D := 58) (v := .tuple #[.agg #[.int .i64 (y.a % 256), .int .i64 (y.b % 256), .int .i64 (y.c % 256), .int .i64 (y.d % 256)], .bool true]) rfl rfl (by kernel_rfl) (by kernel_rfl) (by kernel_rfl) (fun _ _ _ h => h) (Or.inl ⟨by rfl, fun W hSw => by (try dsimp only at hSw); go_simp⟩) (by assumption) ?_
              (try simp only [List.setIfInBounds_toArray, List.set_cons_zero, List.set_cons_succ])
              refine takx (i := 6) (D := 64) (v := .agg #[.int .i64 (y.a % 256), .int .i64 (y.b % 256), .int .i64 (y.c % 256), .int .i64 (y.d % 256)]) rfl rfl (by kernel_rfl) (by kernel_rfl) (by kernel_rfl) (fun _ _ _ h => h) (Or.inl ⟨by rfl, fun W hSw => by (try dsimp only at hSw); go_simp⟩) (by assumption) ?_
              (try simp only [List.setIfInBounds_toArray, List.set_cons_zero, List.set_cons_succ])
              refine takx (i := 7) (D := 65) (v := .bool true) rfl rfl (by kernel_rfl) (by kernel_rfl) (by kernel_rfl) (fun _ _ _ h => h) (Or.inl ⟨by rfl, fun W hSw => by (try dsimp only at hSw); go_simp⟩) (by assumption) ?_
              (try simp only [List.setIfInBounds_toArray, List.set_cons_zero, List.set_cons_succ])
              refine wpAnyH_ready (rs := [9]) (by kernel_rfl) (by simp) ?_
              refine (AllReadyH.cons rfl (fun K hK => ?_) AllReadyH.nil)
              have qq := q4c k_n8
              go_simp
              clear qq
              refine hK.out _ _ ⟨(cks ne_c_n8 (cks ne_c_n8 (cks ne_c_n8 (cks ne_c_n8 hHeld.1)))), (cks ne_c_n8 (cks ne_c_n8 (cks ne_c_n8 (cks ne_c_n8 hHeld.2.1)))), (cks ne_c_n8 (cks ne_c_n8 (cks ne_c_n8 (cks ne_c_n8 hHeld.2.2.1)))), (cks ne_c_n8 (cks ne_c_n8 (cks ne_c_n8 (cks ne_c_n8 hHeld.2.2.2))))⟩ (fun hHeld => ?_)
              clear hK K
              (try simp only [List.setIfInBounds_toArray, List.set_cons_zero, List.set_cons_succ])
              obtain ⟨X8, eY⟩ : ∃ Y, Y = ((((X7.setCell ⟨g6, 0, none⟩ (.int .i64 (y.a % 256))).setCell ⟨g6, 1, none⟩ (.int .i64 (y.b % 256))).setCell ⟨g6, 2, none⟩ (.int .i64 (y.c % 256))).setCell ⟨g6, 3, none⟩ (.int .i64 (y.d % 256))) := ⟨_, rfl⟩
              rw [← eY] at hHeld ⊢
              replace k_c : X8.heap[w.heap.size]? = some (.cells #[.int .i64 q.a, .int .i64 q.b, .int .i64 q.c, .int .i64 q.d] 23 (0, 0)) := by rw [eY]; exact (bks ne_c_n8 (bks ne_c_n8 (bks ne_c_n8 (bks ne_c_n8 k_c))))
              replace bw : Below w.heap.size w X8 := by rw [eY]; exact (bss lo_n8 (bss lo_n8 (bss lo_n8 (bss lo_n8 bw))))
              replace k_n8 : X8.heap[g6]? = some (.cells #[.int .i64 (y.a % 256), .int .i64 (y.b % 256), .int .i64 (y.c % 256), .int .i64 (y.d % 256)] 25 (0, 0)) := by rw [eY]; exact q4s k_n8
              clear eY
              refine takx (i := 10) (D := 9) (v := .bool true) rfl rfl (by kernel_rfl) (by kernel_rfl) (by kernel_rfl) (fun _ _ _ h => h) (Or.inl ⟨by rfl, fun W hSw => by (try dsimp only at hSw); go_simp⟩) (by assumption) ?_
              (try simp only [List.setIfInBounds_toArray, List.set_cons_zero, List.set_cons_succ])
              refine wpAnyH_done (by kernel_rfl) ?_ _
              go_wp2_with fail
              go_meet
              exact ⟨_, j, y, rfl, rfl, k_n8, k_c, Hy, Fj, bw⟩
          · go_simp
            refine hK.out _ _ ⟨cka hHeld.1, cka hHeld.2.1, cka hHeld.2.2.1, cka hHeld.2.2.2⟩ (fun hHeld => ?_)
            clear hK K
            (try simp only [List.setIfInBounds_toArray, List.set_cons_zero, List.set_cons_succ])
            obtain ⟨X9, g9, eY, eg⟩ : ∃ Y g, Y = X1.alloc (.cells #[.int .i64 0, .int .i64 0, .int .i64 0, .int .i64 0] 25) ∧ g = X1.heap.size := ⟨_, _, rfl, rfl⟩
            rw [← eY, ← eg]
            rw [← eY] at hHeld
            have bc : Below X1.heap.size X1 X9 := by rw [eY]; exact (Below.refl _ _).alloc (Nat.le_refl _) _
            have k_n8 : X9.heap[g9]? = some (.cells #[.int .i64 0, .int .i64 0, .int .i64 0, .int .i64 0] 25 (0, 0)) := by rw [eY, eg]; exact heap_alloc_new X1 _
            have lo_n8 : w.heap.size ≤ g9 := by rw [eg]; exact bw.size
            have ne_c_n8 : ¬ w.heap.size = g9 := ne_new k_c eg
            replace k_c := bk bc k_c
            replace bw := bs bc bw
            (try replace r1 := (r1.below bc).more bc.size)
            clear bc eY eg
            refine wpAnyH_ready (rs := [3]) (by kernel_rfl) (by simp) ?_
            refine (AllReadyH.cons rfl (fun K hK => ?_) AllReadyH.nil)
            go_simp
            refine (toColor4 q.a q.b q.c q.d _).mono ?_
            rintro e X10 ⟨rfl, bc⟩
            refine hK.out _ _ ⟨ck bc hHeld.1, ck bc hHeld.2.1, ck bc hHeld.2.2.1, ck bc hHeld.2.2.2⟩ (fun hHeld => ?_)
            clear hK K
            (try simp only [List.setIfInBounds_toArray, List.set_cons_zero, List.set_cons_succ])
            replace k_c := bk bc k_c
            replace k_n8 := bk bc k_n8
            replace bw := bs bc bw
            (try replace r1 := (r1.below bc).more bc.size)
            clear bc
            refine wpAnyH_ready (rs := [4]) (by kernel_rfl) (by simp) ?_
            refine (AllReadyH.cons rfl (fun K hK => ?_) AllReadyH.nil)
            go_simp
            refine (palConv4 k cp1 A1 qs (q.a) (q.b) (q.c) (q.d) _ r1 h0).mono ?_
            rintro e X11 ⟨j, y, rfl, hx0, hf0, bc⟩
            refine hK.out _ _ ⟨ck bc hHeld.1, ck bc hHeld.2.1, ck bc hHeld.2.2.1, ck bc hHeld.2.2.2⟩ (fun hHeld => ?_)
            clear hK K
            (try simp only [List.setIfInBounds_toArray, List.set_cons_zero, List.set_cons_succ])
            replace k_c := bk bc k_c
            replace k_n8 := bk bc k_n8
            replace bw := bs bc bw
            (try replace r1 := (r1.below bc).more bc.size)
            have Hy := Lib.hid hx0
            have Fj := Lib.hid hf0
            clear hx0 hf0
            clear bc
            refine takx (i := 5) (D := 58) (v := .tuple #[.agg #[.int .i64 (y.a % 256), .int .i64 (y.b % 256), .int .i64 (y.c % 256), .int .i64 (y.d % 256)], .bool true]) rfl rfl (by kernel_rfl) (by kernel_rfl) (by kernel_rfl) (fun _ _ _ h => h) (Or.inl ⟨by rfl, fun W hSw => by (try dsimp only at hSw); go_simp⟩) (by assumption) ?_
            (try simp only [List.setIfInBounds_toArray, List.set_cons_zero, List.set_cons_succ])
            refine takx (i := 6) (D := 64) (v := .agg #[.int .i64 (y.a % 256), .int .i64 (y.b % 256), .int .i64 (y.c % 256), .int .i64 (y.d % 256)]) rfl rfl (by kernel_rfl) (by kernel_rfl) (by kernel_rfl) (fun _ _ _ h => h) (Or.inl ⟨by rfl, fun W hSw => by (try dsimp only at hSw); go_simp⟩) (by assumption) ?_
            (try simp only [List.setIfInBounds_toArray, List.set_cons_zero, List.set_cons_succ])
            refine takx (i := 7) (D := 65) (v := .bool true) rfl rfl (by kernel_rfl) (by kernel_rfl) (by kernel_rfl) (fun _ _ _ h => h) (Or.inl ⟨by rfl, fun W hSw => by (try dsimp only at hSw); go_simp⟩) (by assumption) ?_
            (try simp only [List.setIfInBounds_toArray, List.set_cons_zero, List.set_cons_succ])
            refine wpAnyH_ready (rs := [9]) (by kernel_rfl) (by simp) ?_
            refine (AllReadyH.cons rfl (fun K hK => ?_) AllReadyH.nil)
            have qq := q4c k_n8
            go_simp
            clear qq
            refine hK.out _ _ ⟨(cks ne_c_n8 (cks ne_c_n8 (cks ne_c_n8 (cks ne_c_n8 hHeld.1)))), (cks ne_c_n8 (cks ne_c_n8 (cks ne_c_n8 (cks ne_c_n8 hHeld.2.1)))), (cks ne_c_n8 (cks ne_c_n8 (cks ne_c_n8 (cks ne_c_n8 hHeld.2.2.1)))), (cks ne_c_n8 (cks ne_c_n8 (cks ne_c_n8 (cks ne_c_n8 hHeld.2.2.2))))⟩ (fun hHeld => ?_)
            clear hK K
            (try simp only [List.setIfInBounds_toArray, List.set_cons_zero, List.set_cons_succ])
            obtain ⟨X12, eY⟩ : ∃ Y, Y = ((((X11.setCell ⟨g9, 0, none⟩ (.int .i64 (y.a % 256))).setCell ⟨g9, 1, none⟩ (.int .i64 (y.b % 256))).setCell ⟨g9, 2, none⟩ (.int .i64 (y.c % 256))).setCell ⟨g9, 3, none⟩ (.int .i64 (y.d % 256))) := ⟨_, rfl⟩
            rw [← eY] at hHeld ⊢
            replace k_c : X12.heap[w.heap.size]? = some (.cells #[.int .i64 q.a, .int .i64 q.b, .int .i64 q.c, .int .i64 q.d] 23 (0, 0)) := by rw [eY]; exact (bks ne_c_n8 (bks ne_c_n8 (bks ne_c_n8 (bks ne_c_n8 k_c))))
            replace bw : Below w.heap.size w X12 := by rw [eY]; exact (bss lo_n8 (bss lo_n8 (bss lo_n8 (bss lo_n8 bw))))
            replace k_n8 : X12.heap[g9]? = some (.cells #[.int .i64 (y.a % 256), .int .i64 (y.b % 256), .int .i64 (y.c % 256), .int .i64 (y.d % 256)] 25 (0, 0)) := by rw [eY]; exact q4s k_n8
            clear eY
            refine takx (i := 10) (D := 9) (v := .bool true) rfl rfl (by kernel_rfl) (by kernel_rfl) (by kernel_rfl) (fun _ _ _ h => h) (Or.inl ⟨by rfl, fun W hSw => by (try dsimp only at hSw); go_simp⟩) (by assumption) ?_
            (try simp only [List.setIfInBounds_toArray, List.set_cons_zero, List.set_cons_succ])
            refine wpAnyH_done (by kernel_rfl) ?_ _
            go_wp2_with fail
            go_meet
            exact ⟨_, j, y, rfl, rfl, k_n8, k_c, Hy, Fj, bw⟩
        · go_simp
          refine hK.out _ _ ⟨cka hHeld.1, cka hHeld.2.1, cka hHeld.2.2.1, cka hHeld.2.2.2⟩ (fun hHeld => ?_)
          clear hK K
          (try simp only [List.setIfInBounds_toArray, List.set_cons_zero, List.set_cons_succ])
          obtain ⟨X13, g13, eY, eg⟩ : ∃ Y g, Y = X0.alloc (.cells #[.int .i64 0, .int .i64 0, .int .i64 0, .int .i64 0] 25) ∧ g = X0.heap.size := ⟨_, _, rfl, rfl⟩
          rw [← eY, ← eg]
          rw [← eY] at hHeld
          have bc : Below X0.heap.size X0 X13 := by rw [eY]; exact (Below.refl _ _).alloc (Nat.le_refl _) _
          have k_n8 : X13.heap[g13]? = some (.cells #[.int .i64 0, .int .i64 0, .int .i64 0, .int .i64 0] 25 (0, 0)) := by rw [eY, eg]; exact heap_alloc_new X0 _
          have lo_n8 : w.heap.size ≤ g13 := by rw [eg]; exact bw.size
          have ne_c_n8 : ¬ w.heap.size = g13 := ne_new k_c eg
          replace k_c := bk bc k_c
          replace bw := bs bc bw
          (try replace r1 := (r1.below bc).more bc.size)
          clear bc eY eg
          refine wpAnyH_ready (rs := [1]) (by kernel_rfl) (by simp) ?_
          refine (AllReadyH.cons rfl (fun K hK => ?_) AllReadyH.nil)
          go_simp
          refine (toColors_any k cp (some ⟨b, off, none⟩) qs _ ((HR.out.below bw).more bw.size)).mono ?_
          rintro e X14 ⟨A1, cp1, rfl, r1, lo1, bc⟩
          refine hK.out _ _ ⟨ck bc hHeld.1, ck bc hHeld.2.1, ck bc hHeld.2.2.1, ck bc hHeld.2.2.2⟩ (fun hHeld => ?_)
          clear hK K
          (try simp only [List.setIfInBounds_toArray, List.set_cons_zero, List.set_cons_succ])
          replace k_c := bk bc k_c
          replace k_n8 := bk bc k_n8
          replace bw := bs bc bw
          (try replace r1 := (r1.below bc).more bc.size)
          clear bc
          refine wpAnyH_ready (rs := [3]) (by kernel_rfl) (by simp) ?_
          refine (AllReadyH.cons rfl (fun K hK => ?_) AllReadyH.nil)
          go_simp
          refine (toColor4 q.a q.b q.c q.d _).mono ?_
          rintro e X15 ⟨rfl, bc⟩
          refine hK.out _ _ ⟨ck bc hHeld.1, ck bc hHeld.2.1, ck bc hHeld.2.2.1, ck bc hHeld.2.2.2⟩ (fun hHeld => ?_)
          clear hK K
          (try simp only [List.setIfInBounds_toArray, List.set_cons_zero, List.set_cons_succ])
          replace k_c := bk bc k_c
          replace k_n8 := bk bc k_n8
          replace bw := bs bc bw
          (try replace r1 := (r1.below bc).more bc.size)
          clear bc
          refine wpAnyH_ready (rs := [4]) (by kernel_rfl) (by simp) ?_
          refine (AllReadyH.cons rfl (fun K hK => ?_) AllReadyH.nil)
          go_simp
          refine (palConv4 k cp1 A1 qs (q.a) (q.b) (q.c) (q.d) _ r1 h0).mono ?_
          rintro e X16 ⟨j, y, rfl, hx0, hf0, bc⟩
          refine hK.out _ _ ⟨ck bc hHeld.1, ck bc hHeld.2.1, ck bc hHeld.2.2.1, ck bc hHeld.2.2.2⟩ (fun hHeld => ?_)
          clear hK K
          (try simp only [List.setIfInBounds_toArray, List.set_cons_zero, List.set_cons_succ])
          replace k_c := bk bc k_c
          replace k_n8 := bk bc k_n8
          replace bw := bs bc bw
          (try replace r1 := (r1.below bc).more bc.size)
          have Hy := Lib.hid hx0
          have Fj := Lib.hid hf0
          clear hx0 hf0
          clear bc
          refine takx (i := 5) (D := 58) (v := .tuple #[.agg #[.int .i64 (y.a % 256), .int .i64 (y.b % 256), .int .i64 (y.c % 256), .int .i64 (y.d % 256)], .bool true]) rfl rfl (by kernel_rfl) (by kernel_rfl) (by kernel_rfl) (fun _ _ _ h => h) (Or.inl ⟨by rfl, fun W hSw => by (try dsimp only at hSw); go_simp⟩) (by assumption) ?_
          (try simp only [List.setIfInBounds_toArray, List.set_cons_zero, List.set_cons_succ])
          refine takx (i := 6) (D := 64) (v := .agg #[.int .i64 (y.a % 256), .int .i64 (y.b % 256), .int .i64 (y.c % 256), .int .i64 (y.d % 256)]) rfl rfl (by kernel_rfl) (by kernel_rfl) (by kernel_rfl) (fun _ _ _ h => h) (Or.inl ⟨by rfl, fun W hSw => by (try dsimp only at hSw); go_simp⟩) (by assumption) ?_
          (try simp only [List.setIfInBounds_toArray, List.set_cons_zero, List.set_cons_succ])
          refine takx (i := 7) (D := 65) (v := .bool true) rfl rfl (by kernel_rfl) (by kernel_rfl) (by kernel_rfl) (fun _ _ _ h => h) (Or.inl ⟨by rfl, fun W hSw => by (try dsimp only at hSw); go_simp⟩) (by assumption) ?_
          (try simp only [List.setIfInBounds_toArray, List.set_cons_zero, List.set_cons_succ])
          refine wpAnyH_ready (rs := [9]) (by kernel_rfl) (by simp) ?_
          refine (AllReadyH.cons rfl (fun K hK => ?_) AllReadyH.nil)
          have qq := q4c k_n8
          go_simp
          clear qq
          refine hK.out _ _ ⟨(cks ne_c_n8 (cks ne_c_n8 (cks ne_c_n8 (cks ne_c_n8 hHeld.1)))), (cks ne_c_n8 (cks ne_c_n8 (cks ne_c_n8 (cks ne_c_n8 hHeld.2.1)))), (cks ne_c_n8 (cks ne_c_n8 (cks ne_c_n8 (cks ne_c_n8 hHeld.2.2.1)))), (cks ne_c_n8 (cks ne_c_n8 (cks ne_c_n8 (cks ne_c_n8 hHeld.2.2.2))))⟩ (fun hHeld => ?_)
          clear hK K
          (try simp only [List.setIfInBounds_toArray, List.set_cons_zero, List.set_cons_succ])
          obtain ⟨X17, eY⟩ : ∃ Y, Y = ((((X16.setCell ⟨g13, 0, none⟩ (.int .i64 (y.a % 256))).setCell ⟨g13, 1, none⟩ (.int .i64 (y.b % 256))).setCell ⟨g13, 2, none⟩ (.int .i64 (y.c % 256))).setCell ⟨g13, 3, none⟩ (.int .i64 (y.d % 256))) := ⟨_, rfl⟩
          rw [← eY] at hHeld ⊢
          replace k_c : X17.heap[w.heap.size]? = some (.cells #[.int .i64 q.a, .int .i64 q.b, .int .i64 q.c, .int .i64 q.d] 23 (0, 0)) := by rw [eY]; exact (bks ne_c_n8 (bks ne_c_n8 (bks ne_c_n8 (bks ne_c_n8 k_c))))
          replace bw : Below w.heap.size w X17 := by rw [eY]; exact (bss lo_n8 (bss lo_n8 (bss lo_n8 (bss lo_n8 bw))))
          replace k_n8 : X17.heap[g13]? = some (.cells #[.int .i64 (y.a % 256), .int .i64 (y.b % 256), .int .i64 (y.c % 256), .int .i64 (y.d % 256)] 25 (0, 0)) := by rw [eY]; exact q4s k_n8
          clear eY
          refine takx (i := 10) (D := 9) (v := .bool true) rfl rfl (by kernel_rfl) (by kernel_rfl) (by kernel_rfl) (fun _ _ _ h => h) (Or.inl ⟨by rfl, fun W hSw => by (try dsimp only at hSw); go_simp⟩) (by assumption) ?_
          (try simp only [List.setIfInBounds_toArray, List.set_cons_zero, List.set_cons_succ])
          refine wpAnyH_done (by kernel_rfl) ?_ _
          go_wp2_with fail
          go_meet
          exact ⟨_, j, y, rfl, rfl, k_n8, k_c, Hy, Fj, bw⟩
      case rest =>
        clear k_c bw
        obtain ⟨g, j, y, rfl, rfl, k_y, k_c, Hy, Fj, BW2⟩ := hcut
        obtain rfl : y = p := by rw [Hy.out, ← HPE.out, Fj.out.unique Fi.out]
        have bw := BW2.out
        obtain ⟨e1, e2, e3, e4⟩ := (HR.out.below bw).at hi
        rw [HPE.out] at e1 e2 e3 e4
        have heq : (dist y q == dist y q) = true := by simp
        go_upto_region 13 with fail
        refine wp_region_held_drew (S := fun w' => w'.cell? ⟨w.heap.size, 0, none⟩ = some (.int .i64 q.a) ∧ w'.cell? ⟨w.heap.size, 1, none⟩ = some (.int .i64 q.b) ∧ w'.cell? ⟨w.heap.size, 2, none⟩ = some (.int .i64 q.c) ∧ w'.cell? ⟨w.heap.size, 3, none⟩ = some (.int .i64 q.d) ∧ w'.cell? ⟨g, 0, none⟩ = some (.int .i64 (y.a % 256)) ∧ w'.cell? ⟨g, 1, none⟩ = some (.int .i64 (y.b % 256)) ∧ w'.cell? ⟨g, 2, none⟩ = some (.int .i64 (y.c % 256)) ∧ w'.cell? ⟨g, 3, none⟩ = some (.int .i64 (y.d % 256)) ∧ w'.cell? ⟨b, off + i * 4, none⟩ = some (.int .i64 y.a) ∧ w'.cell? ⟨b, off + i * 4 + 1, none⟩ = some (.int .i64 y.b) ∧ w'.cell? ⟨b, off + i * 4 + 2, none⟩ = some (.int .i64 y.c) ∧ w'.cell? ⟨b, off + i * 4 + 3, none⟩ = some (.int .i64 y.d)) (by kernel_rfl) ⟨(q4c k_c).1.1, (q4c k_c).1.2.1, (q4c k_c).1.2.2.1, (q4c k_c).1.2.2.2, (q4c k_y).1.1, (q4c k_y).1.2.1, (q4c k_y).1.2.2.1, (q4c k_y).1.2.2.2, (by assumption), (by assumption), (by assumption), (by assumption)⟩ ?_
        intro hHeld
        obtain ⟨X0, eX, bc⟩ : ∃ X, X = wc.drew ∧ Below wc.heap.size wc X := ⟨_, rfl, (Below.refl _ _).drew⟩
        rw [← eX] at hHeld ⊢
        replace k_c := bk bc k_c
        replace k_y := bk bc k_y
        replace bw := bs bc bw
        clear eX bc
        refine takx (i := 0) (D := 66) (v := .bool true) rfl rfl (by kernel_rfl) (by kernel_rfl) (by kernel_rfl) (fun _ _ _ h => h) (Or.inl ⟨by rfl, fun W hSw => by (try dsimp only at hSw); go_simp⟩) (by assumption) ?_
        (try simp only [List.setIfInBounds_toArray, List.set_cons_zero, List.set_cons_succ])
        refine takx (i := 1) (D := 67) (v := .bool true) rfl rfl (by kernel_rfl) (by kernel_rfl) (by kernel_rfl) (fun _ _ _ h => h) (Or.inl ⟨by rfl, fun W hSw => by (try dsimp only at hSw); go_simp⟩) (by assumption) ?_
        (try simp only [List.setIfInBounds_toArray, List.set_cons_zero, List.set_cons_succ])
        refine takx (i := 2) (D := 68) (v := .agg #[.int .i64 (y.a % 256), .int .i64 (y.b % 256), .int .i64 (y.c % 256), .int .i64 (y.d % 256)]) rfl rfl (by kernel_rfl) (by kernel_rfl) (by kernel_rfl) (fun _ _ _ h => h) (Or.inl ⟨by rfl, fun W hSw => by (try dsimp only at hSw); go_simp⟩) (by assumption) ?_
        (try simp only [List.setIfInBounds_toArray, List.set_cons_zero, List.set_cons_succ])
        refine takx (i := 3) (D := 69) (v := .agg #[.int .i64 q.a, .int .i64 q.b, .int .i64 q.c, .int .i64 q.d]) rfl rfl (by kernel_rfl) (by kernel_rfl) (by kernel_rfl) (fun _ _ _ h => h) (Or.inl ⟨by rfl, fun W hSw => by (try dsimp only at hSw); go_simp⟩) (by assumption) ?_
        (try simp only [List.setIfInBounds_toArray, List.set_cons_zero, List.set_cons_succ])
        refine takx (i := 6) (D := 72) (v := .slice (some ⟨b, off, none⟩) k cp) rfl rfl (by kernel_rfl) (by kernel_rfl) (by kernel_rfl) (fun _ _ _ h => h) (Or.inl ⟨by rfl, fun W hSw => by (try dsimp only at hSw); go_simp⟩) (by assumption) ?_
        (try simp only [List.setIfInBounds_toArray, List.set_cons_zero, List.set_cons_succ])
        refine takx (i := 7) (D := 73) (v := .int .i64 i) rfl rfl (by kernel_rfl) (by kernel_rfl) (by kernel_rfl) (fun _ _ _ h => h) (Or.inl ⟨by rfl, fun W hSw => by (try dsimp only at hSw); go_simp⟩) (by assumption) ?_
        (try simp only [List.setIfInBounds_toArray, List.set_cons_zero, List.set_cons_succ])
        refine takx (i := 8) (D := 74) (v := .pointer (some ⟨b, off + i * 4, none⟩)) rfl rfl (by kernel_rfl) (by kernel_rfl) (by kernel_rfl) (fun _ _ _ h => h) (Or.inl ⟨by rfl, fun W hSw => by (try dsimp only at hSw); go_simp⟩) (by assumption) ?_
        (try simp only [List.setIfInBounds_toArray, List.set_cons_zero, List.set_cons_succ])
        refine takx (i := 9) (D := 75) (v := .agg #[.int .i64 y.a, .int .i64 y.b, .int .i64 y.c, .int .i64 y.d]) rfl rfl (by kernel_rfl) (by kernel_rfl) (by kernel_rfl) (fun _ _ _ h => h) (Or.inl ⟨by rfl, fun W hSw => by (try dsimp only at hSw); go_simp⟩) (by assumption) ?_
        (try simp only [List.setIfInBounds_toArray, List.set_cons_zero, List.set_cons_succ])
        refine takx (i := 11) (D := 77) (v := .agg #[.int .i64 q.a, .int .i64 q.b, .int .i64 q.c, .int .i64 q.d]) rfl rfl (by kernel_rfl) (by kernel_rfl) (by kernel_rfl) (fun _ _ _ h => h) (Or.inl ⟨by rfl, fun W hSw => by (try dsimp only at hSw); go_simp⟩) (by assumption) ?_
        (try simp only [List.setIfInBounds_toArray, List.set_cons_zero, List.set_cons_succ])
        refine wpAnyH_ready (rs := [4]) (by kernel_rfl) (by simp) ?_
        refine (AllReadyH.cons rfl (fun K hK => ?_) AllReadyH.nil)
        go_simp
        refine (toColor4 q.a q.b q.c q.d _).mono ?_
        rintro e X1 ⟨rfl, bc⟩
        refine hK.out _ _ ⟨ck bc hHeld.1, ck bc hHeld.2.1, ck bc hHeld.2.2.1, ck bc hHeld.2.2.2.1, ck bc hHeld.2.2.2.2.1, ck bc hHeld.2.2.2.2.2.1, ck bc hHeld.2.2.2.2.2.2.1, ck bc hHeld.2.2.2.2.2.2.2.1, ck bc hHeld.2.2.2.2.2.2.2.2.1, ck bc hHeld.2.2.2.2.2.2.2.2.2.1, ck bc hHeld.2.2.2.2.2.2.2.2.2.2.1, ck bc hHeld.2.2.2.2.2.2.2.2.2.2.2⟩ (fun hHeld => ?_)
        clear hK K
        (try simp only [List.setIfInBounds_toArray, List.set_cons_zero, List.set_cons_succ])
        replace k_c := bk bc k_c
        replace k_y := bk bc k_y
        replace bw := bs bc bw
        clear bc
        refine wpAnyH_ready (rs := [5]) (by kernel_rfl) (by simp) ?_
        refine (AllReadyH.cons rfl (fun K hK => ?_) AllReadyH.nil)
        go_simp
        refine (farL y q HQ.out _).mono ?_
        rintro e X2 ⟨rfl, bc⟩
        refine hK.out _ _ ⟨ck bc hHeld.1, ck bc hHeld.2.1, ck bc hHeld.2.2.1, ck bc hHeld.2.2.2.1, ck bc hHeld.2.2.2.2.1, ck bc hHeld.2.2.2.2.2.1, ck bc hHeld.2.2.2.2.2.2.1, ck bc hHeld.2.2.2.2.2.2.2.1, ck bc hHeld.2.2.2.2.2.2.2.2.1, ck bc hHeld.2.2.2.2.2.2.2.2.2.1, ck bc hHeld.2.2.2.2.2.2.2.2.2.2.1, ck bc hHeld.2.2.2.2.2.2.2.2.2.2.2⟩ (fun hHeld => ?_)
        clear hK K
        (try simp only [List.setIfInBounds_toArray, List.set_cons_zero, List.set_cons_succ])
        replace k_c := bk bc k_c
        replace k_y := bk bc k_y
        replace bw := bs bc bw
        clear bc
        refine wpAnyH_ready (rs := [10]) (by kernel_rfl) (by simp) ?_
        refine (AllReadyH.cons rfl (fun K hK => ?_) AllReadyH.nil)
        go_simp
        refine (toColor4 y.a y.b y.c y.d _).mono ?_
        rintro e X3 ⟨rfl, bc⟩
        refine hK.out _ _ ⟨ck bc hHeld.1, ck bc hHeld.2.1, ck bc hHeld.2.2.1, ck bc hHeld.2.2.2.1, ck bc hHeld.2.2.2.2.1, ck bc hHeld.2.2.2.2.2.1, ck bc hHeld.2.2.2.2.2.2.1, ck bc hHeld.2.2.2.2.2.2.2.1, ck bc hHeld.2.2.2.2.2.2.2.2.1, ck bc hHeld.2.2.2.2.2.2.2.2.2.1, ck bc hHeld.2.2.2.2.2.2.2.2.2.2.1, ck bc hHeld.2.2.2.2.2.2.2.2.2.2.2⟩ (fun hHeld => ?_)
        clear hK K
        (try simp only [List.setIfInBounds_toArray, List.set_cons_zero, List.set_cons_succ])
        replace k_c := bk bc k_c
        replace k_y := bk bc k_y
        replace bw := bs bc bw
        clear bc
        refine wpAnyH_ready (rs := [12]) (by kernel_rfl) (by simp) ?_
        refine (AllReadyH.cons rfl (fun K hK => ?_) AllReadyH.nil)
        go_simp
        refine (toColor4 q.a q.b q.c q.d _).mono ?_
        rintro e X4 ⟨rfl, bc⟩
        refine hK.out _ _ ⟨ck bc hHeld.1, ck bc hHeld.2.1, ck bc hHeld.2.2.1, ck bc hHeld.2.2.2.1, ck bc hHeld.2.2.2.2.1, ck bc hHeld.2.2.2.2.2.1, ck bc hHeld.2.2.2.2.2.2.1, ck bc hHeld.2.2.2.2.2.2.2.1, ck bc hHeld.2.2.2.2.2.2.2.2.1, ck bc hHeld.2.2.2.2.2.2.2.2.2.1, ck bc hHeld.2.2.2.2.2.2.2.2.2.2.1, ck bc hHeld.2.2.2.2.2.2.2.2.2.2.2⟩ (fun hHeld => ?_)
        clear hK K
        (try simp only [List.setIfInBounds_toArray, List.set_cons_zero, List.set_cons_succ])
        replace k_c := bk bc k_c
        replace k_y := bk bc k_y
        replace bw := bs bc bw
        clear bc
        refine wpAnyH_ready (rs := [13]) (by kernel_rfl) (by simp) ?_
        refine (AllReadyH.cons rfl (fun K hK => ?_) AllReadyH.nil)
        go_simp
        refine (far4 y q HP.out HQ.out _).mono ?_
        rintro e X5 ⟨rfl, bc⟩
        refine hK.out _ _ ⟨ck bc hHeld.1, ck bc hHeld.2.1, ck bc hHeld.2.2.1, ck bc hHeld.2.2.2.1, ck bc hHeld.2.2.2.2.1, ck bc hHeld.2.2.2.2.2.1, ck bc hHeld.2.2.2.2.2.2.1, ck bc hHeld.2.2.2.2.2.2.2.1, ck bc hHeld.2.2.2.2.2.2.2.2.1, ck bc hHeld.2.2.2.2.2.2.2.2.2.1, ck bc hHeld.2.2.2.2.2.2.2.2.2.2.1, ck bc hHeld.2.2.2.2.2.2.2.2.2.2.2⟩ (fun hHeld => ?_)
        clear hK K
        (try simp only [List.setIfInBounds_toArray, List.set_cons_zero, List.set_cons_succ])
        replace k_c := bk bc k_c
        replace k_y := bk bc k_y
        replace bw := bs bc bw
        clear bc
        refine takx (i := 14) (D := 80) (v := .bool true) rfl rfl (by kernel_rfl) (by kernel_rfl) (by kernel_rfl) (fun _ _ _ h => h) (Or.inl ⟨by rfl, fun W hSw => by (try dsimp only at hSw); go_simp⟩) (by assumption) ?_
        (try simp only [List.setIfInBounds_toArray, List.set_cons_zero, List.set_cons_succ])
        refine takx (i := 15) (D := 81) (v := .bool true) rfl rfl (by kernel_rfl) (by kernel_rfl) (by kernel_rfl) (fun _ _ _ h => h) (Or.inl ⟨by rfl, fun W hSw => by (try dsimp only at hSw); go_simp⟩) (by assumption) ?_
        (try simp only [List.setIfInBounds_toArray, List.set_cons_zero, List.set_cons_succ])
        refine takx (i := 16) (D := 4) (v := .bool true) rfl rfl (by kernel_rfl) (by kernel_rfl) (by kernel_rfl) (fun _ _ _ h => h) (Or.inl ⟨by rfl, fun W hSw => by (try dsimp only at hSw); go_simp⟩) (by assumption) ?_
        (try simp only [List.setIfInBounds_toArray, List.set_cons_zero, List.set_cons_succ])
        refine wpAnyH_done (by kernel_rfl) ?_ _
        go_wp2_with fail
        go_ret
        exact ⟨rfl, bw⟩

end Go.Proofs.Ytbhccckfooobcaa

/-
  The walk of the law FnPaletteOfOwn. No condition.
-/
import Derived.Test.YtbhccckfooobcaaP9
namespace Go.Proofs.Ytbhccckfooobcaa
open Go.ChangeShapes Go.WideShapes Go.ChangeAt Go.RowKit
set_option linter.unusedVariables false
set_option linter.unusedSimpArgs false

set_option maxRecDepth 100000 in
set_option maxHeartbeats 8000000 in
theorem fnPaletteOfOwn_walk (w : World) (A : Option Addr) (n cp : Nat) (qs : List Q4) (hr : RdQuads w w.heap.size A n qs) (z : Int) (hz : I64 z) :
    Calls Try.prog 10 #[.slice A n cp, .int .i64 z] w fun e w' => e = .returned (.bool true) ∧ Below w.heap.size w w' := by
  have HR := Lib.hid hr
  have hn : n * 32 ≤ 140737488355328 := hr.2.1
  clear hr
  have hcs := fun a b c d W => col_same a b c d W
  by_cases hO : Opq qs
  case neg =>
    have HO := Lib.hid hO
    clear hO
    go_enter Try.func10, Try.ntmps10
    go_wp2_with fail
    refine (opq_no n cp A qs _ HR.out HO.out).mono ?_
    rintro e w1 ⟨rfl, bw⟩
    go_wp2
    go_ret
    exact ⟨rfl, bw⟩
  have HO := Lib.hid hO
  clear hO
  by_cases h1 : z < 0
  case pos =>
    go_enter Try.func10, Try.ntmps10
    go_wp2_with fail
    refine (opq_yes n cp A qs _ HR.out HO.out).mono ?_
    rintro e w1 ⟨rfl, bw⟩
    go_wp2
    go_ret
    exact ⟨rfl, bw⟩
  by_cases h2 : (n : Int) ≤ z
  case pos =>
    go_enter Try.func10, Try.ntmps10
    go_wp2_with fail
    refine (opq_yes n cp A qs _ HR.out HO.out).mono ?_
    rintro e w1 ⟨rfl, bw⟩
    go_wp2
    go_ret
    exact ⟨rfl, bw⟩
  obtain ⟨k, rfl⟩ : ∃ k : Nat, z = k := ⟨z.toNat, by omega⟩
  have hk : k < n := by omega
  have h0 : 0 < n := by omega
  clear h1 h2 hz
  have k1 : (k : Int) < (n : Int) := by omega
  have k0 : (0 : Int) ≤ (k : Int) := by omega
  obtain ⟨b, off, rfl, hbw, _⟩ := HR.out.2.2.2 h0
  have HM := Lib.hid (getD_mem qs k (by rw [HR.out.1]; exact hk))
  have HC := Lib.hid (HR.out.2.2.1 _ HM.out)
  generalize hq : qs.getD k default = q at HM HC
  have HQ := Lib.hid hq
  clear hq
  have H5 := Lib.hid (HO.out q HM.out)
  go_enter Try.func10, Try.ntmps10
  go_wp2_with fail
  refine (opq_yes n cp (some ⟨b, off, none⟩) qs _ HR.out HO.out).mono ?_
  rintro e w1 ⟨rfl, bw⟩
  obtain ⟨e1, e2, e3, e4⟩ := (HR.out.below bw).at hk
  rw [HQ.out] at e1 e2 e3 e4
  go_upto_region 3 with fail
  go_cut [5, 6] (fun s5 s6 wx => ∃ (g : Nat), s5 = .pointer (some ⟨g, 0, none⟩) ∧ s6 = .bool true ∧ wx.heap[g]? = some (.cells #[.int .i64 (q.a % 256), .int .i64 (q.b % 256), .int .i64 (q.c % 256), .int .i64 (q.d % 256)] 25 (0, 0)) ∧ Hid (Below w.heap.size w wx))
  case first =>
    refine wp_region_held_drew (S := fun w' => w'.cell? ⟨b, off + k * 4, none⟩ = some (.int .i64 q.a) ∧ w'.cell? ⟨b, off + k * 4 + 1, none⟩ = some (.int .i64 q.b) ∧ w'.cell? ⟨b, off + k * 4 + 2, none⟩ = some (.int .i64 q.c) ∧ w'.cell? ⟨b, off + k * 4 + 3, none⟩ = some (.int .i64 q.d)) (by kernel_rfl) ⟨(by assumption), (by assumption), (by assumption), (by assumption)⟩ ?_
    intro hHeld
    obtain ⟨X0, eX, bc⟩ : ∃ X, X = w1.drew ∧ Below w1.heap.size w1 X := ⟨_, rfl, (Below.refl _ _).drew⟩
    rw [← eX] at hHeld ⊢
    replace bw := bs bc bw
    (try replace r1 := (r1.below bc).more bc.size)
    clear eX bc
    refine takx (i := 0) (D := 22) (v := .slice (some ⟨b, off, none⟩) n cp) rfl rfl (by kernel_rfl) (by kernel_rfl) (by kernel_rfl) (fun _ _ _ h => h) (Or.inl ⟨by rfl, fun W hSw => by (try dsimp only at hSw); go_simp⟩) (by assumption) ?_
    (try simp only [List.setIfInBounds_toArray, List.set_cons_zero, List.set_cons_succ])
    refine takx (i := 2) (D := 24) (v := .slice (some ⟨b, off, none⟩) n cp) rfl rfl (by kernel_rfl) (by kernel_rfl) (by kernel_rfl) (fun _ _ _ h => h) (Or.inl ⟨by rfl, fun W hSw => by (try dsimp only at hSw); go_simp⟩) (by assumption) ?_
    (try simp only [List.setIfInBounds_toArray, List.set_cons_zero, List.set_cons_succ])
    refine takx (i := 3) (D := 25) (v := .int .i64 k) rfl rfl (by kernel_rfl) (by kernel_rfl) (by kernel_rfl) (fun _ _ _ h => h) (Or.inl ⟨by rfl, fun W hSw => by (try dsimp only at hSw); go_simp⟩) (by assumption) ?_
    (try simp only [List.setIfInBounds_toArray, List.set_cons_zero, List.set_cons_succ])
    refine takx (i := 4) (D := 26) (v := .pointer (some ⟨b, off + k * 4, none⟩)) rfl rfl (by kernel_rfl) (by kernel_rfl) (by kernel_rfl) (fun _ _ _ h => h) (Or.inl ⟨by rfl, fun W hSw => by (try dsimp only at hSw); go_simp⟩) (by assumption) ?_
    (try simp only [List.setIfInBounds_toArray, List.set_cons_zero, List.set_cons_succ])
    refine takx (i := 5) (D := 27) (v := .agg #[.int .i64 q.a, .int .i64 q.b, .int .i64 q.c, .int .i64 q.d]) rfl rfl (by kernel_rfl) (by kernel_rfl) (by kernel_rfl) (fun _ _ _ h => h) (Or.inl ⟨by rfl, fun W hSw => by (try dsimp only at hSw); go_simp⟩) (by assumption) ?_
    (try simp only [List.setIfInBounds_toArray, List.set_cons_zero, List.set_cons_succ])
    refine wpAnyH_ready (rs := [1, 11]) (by kernel_rfl) (by simp) ?_
    refine (AllReadyH.cons rfl (fun K hK => ?_) (AllReadyH.cons rfl (fun K hK => ?_) AllReadyH.nil))
    · go_simp
      refine (toColors_any n cp (some ⟨b, off, none⟩) qs _ ((HR.out.below bw).more bw.size)).mono ?_
      rintro e X1 ⟨A1, cp1, rfl, r1, lo1, bc⟩
      refine hK.out _ _ ⟨ck bc hHeld.1, ck bc hHeld.2.1, ck bc hHeld.2.2.1, ck bc hHeld.2.2.2⟩ (fun hHeld => ?_)
      clear hK K
      (try simp only [List.setIfInBounds_toArray, List.set_cons_zero, List.set_cons_succ])
      replace bw := bs bc bw
      (try replace r1 := (r1.below bc).more bc.size)
      clear bc
      refine wpAnyH_ready (rs := [6, 11]) (by kernel_rfl) (by simp) ?_
      refine (AllReadyH.cons rfl (fun K hK => ?_) (AllReadyH.cons rfl (fun K hK => ?_) AllReadyH.nil))
      · go_simp
        refine (toColor4 q.a q.b q.c q.d _).mono ?_
        rintro e X2 ⟨rfl, bc⟩
        refine hK.out _ _ ⟨ck bc hHeld.1, ck bc hHeld.2.1, ck bc hHeld.2.2.1, ck bc hHeld.2.2.2⟩ (fun hHeld => ?_)
        clear hK K
        (try simp only [List.setIfInBounds_toArray, List.set_cons_zero, List.set_cons_succ])
        replace bw := bs bc bw
        (try replace r1 := (r1.below bc).more bc.size)
        clear bc
        refine wpAnyH_ready (rs := [7, 11]) (by kernel_rfl) (by simp) ?_
        refine (AllReadyH.cons rfl (fun K hK => ?_) (AllReadyH.cons rfl (fun K hK => ?_) AllReadyH.nil))
        · go_simp
          refine (palConv4 n cp1 A1 qs (q.a) (q.b) (q.c) (q.d) _ r1 h0).mono ?_
          rintro e X3 ⟨i, x, rfl, hx0, hf0, bc⟩
          refine hK.out _ _ ⟨ck bc hHeld.1, ck bc hHeld.2.1, ck bc hHeld.2.2.1, ck bc hHeld.2.2.2⟩ (fun hHeld => ?_)
          clear hK K
          (try simp only [List.setIfInBounds_toArray, List.set_cons_zero, List.set_cons_succ])
          replace bw := bs bc bw
          (try replace r1 := (r1.below bc).more bc.size)
          have Hx := Lib.hid hx0
          have Fi := Lib.hid hf0
          clear hx0 hf0
          clear bc
          refine takx (i := 8) (D := 21) (v := .tuple #[.agg #[.int .i64 (x.a % 256), .int .i64 (x.b % 256), .int .i64 (x.c % 256), .int .i64 (x.d % 256)], .bool true]) rfl rfl (by kernel_rfl) (by kernel_rfl) (by kernel_rfl) (fun _ _ _ h => h) (Or.inl ⟨by rfl, fun W hSw => by (try dsimp only at hSw); go_simp⟩) (by assumption) ?_
          (try simp only [List.setIfInBounds_toArray, List.set_cons_zero, List.set_cons_succ])
          refine takx (i := 9) (D := 30) (v := .agg #[.int .i64 (x.a % 256), .int .i64 (x.b % 256), .int .i64 (x.c % 256), .int .i64 (x.d % 256)]) rfl rfl (by kernel_rfl) (by kernel_rfl) (by kernel_rfl) (fun _ _ _ h => h) (Or.inl ⟨by rfl, fun W hSw => by (try dsimp only at hSw); go_simp⟩) (by assumption) ?_
          (try simp only [List.setIfInBounds_toArray, List.set_cons_zero, List.set_cons_succ])
          refine takx (i := 10) (D := 31) (v := .bool true) rfl rfl (by kernel_rfl) (by kernel_rfl) (by kernel_rfl) (fun _ _ _ h => h) (Or.inl ⟨by rfl, fun W hSw => by (try dsimp only at hSw); go_simp⟩) (by assumption) ?_
          (try simp only [List.setIfInBounds_toArray, List.set_cons_zero, List.set_cons_succ])
          refine wpAnyH_ready (rs := [11]) (by kernel_rfl) (by simp) ?_
          refine (AllReadyH.cons rfl (fun K hK => ?_) AllReadyH.nil)
          go_simp
          refine hK.out _ _ ⟨cka hHeld.1, cka hHeld.2.1, cka hHeld.2.2.1, cka hHeld.2.2.2⟩ (fun hHeld => ?_)
          clear hK K
          (try simp only [List.setIfInBounds_toArray, List.set_cons_zero, List.set_cons_succ])
          obtain ⟨X4, g4, eY, eg⟩ : ∃ Y g, Y = X3.alloc (.cells #[.int .i64 0, .int .i64 0, .int .i64 0, .int .i64 0] 25) ∧ g = X3.heap.size := ⟨_, _, rfl, rfl⟩
          rw [← eY, ← eg]
          rw [← eY] at hHeld
          have bc : Below X3.heap.size X3 X4 := by rw [eY]; exact (Below.refl _ _).alloc (Nat.le_refl _) _
          have k_n5 : X4.heap[g4]? = some (.cells #[.int .i64 0, .int .i64 0, .int .i64 0, .int .i64 0] 25 (0, 0)) := by rw [eY, eg]; exact heap_alloc_new X3 _
          have lo_n5 : w.heap.size ≤ g4 := by rw [eg]; exact bw.size
          replace bw := bs bc bw
          (try replace r1 := (r1.below bc).more bc.size)
          clear bc eY eg
          refine wpAnyH_ready (rs := [12]) (by kernel_rfl) (by simp) ?_
          refine (AllReadyH.cons rfl (fun K hK => ?_) AllReadyH.nil)
          have qq := q4c k_n5
          go_simp
          clear qq
          refine hK.out _ _ ⟨(cks (by first | assumption | (dsimp only; omega)) (cks (by first | assumption | (dsimp only; omega)) (cks (by first | assumption | (dsimp only; omega)) (cks (by first | assumption | (dsimp only; omega)) hHeld.1)))), (cks (by first | assumption | (dsimp only; omega)) (cks (by first | assumption | (dsimp only; omega)) (cks (by first | assumption | (dsimp only; omega)) (cks (by first | assumption | (dsimp only; omega)) hHeld.2.1)))), (cks (by first | assumption | (dsimp only; omega)) (cks (by first | assumption | (dsimp only; omega)) (cks (by first | assumption | (dsimp only; omega)) (cks (by first | assumption | (dsimp only; omega)) hHeld.2.2.1)))), (cks (by first | assumption | (dsimp only; omega)) (cks (by first | assumption | (dsimp only; omega)) (cks (by first | assumption | (dsimp only; omega)) (cks (by first | assumption | (dsimp only; omega)) hHeld.2.2.2))))⟩ (fun hHeld => ?_)
          clear hK K
          (try simp only [List.setIfInBounds_toArray, List.set_cons_zero, List.set_cons_succ])
          obtain ⟨X5, eY⟩ : ∃ Y, Y = ((((X4.setCell ⟨g4, 0, none⟩ (.int .i64 (x.a % 256))).setCell ⟨g4, 1, none⟩ (.int .i64 (x.b % 256))).setCell ⟨g4, 2, none⟩ (.int .i64 (x.c % 256))).setCell ⟨g4, 3, none⟩ (.int .i64 (x.d % 256))) := ⟨_, rfl⟩
          rw [← eY] at hHeld ⊢
          replace bw : Below w.heap.size w X5 := by rw [eY]; exact (bss lo_n5 (bss lo_n5 (bss lo_n5 (bss lo_n5 bw))))
          replace k_n5 : X5.heap[g4]? = some (.cells #[.int .i64 (x.a % 256), .int .i64 (x.b % 256), .int .i64 (x.c % 256), .int .i64 (x.d % 256)] 25 (0, 0)) := by rw [eY]; exact q4s k_n5
          clear eY
          refine takx (i := 13) (D := 6) (v := .bool true) rfl rfl (by kernel_rfl) (by kernel_rfl) (by kernel_rfl) (fun _ _ _ h => h) (Or.inl ⟨by rfl, fun W hSw => by (try dsimp only at hSw); go_simp⟩) (by assumption) ?_
          (try simp only [List.setIfInBounds_toArray, List.set_cons_zero, List.set_cons_succ])
          refine wpAnyH_done (by kernel_rfl) ?_ _
          go_wp2_with fail
          go_meet
          obtain ⟨u1, u2, u3, u4, _⟩ := near_own HO.out HM.out (c := q) rfl rfl rfl H5.out Fi.out Hx.out
          exact ⟨_, rfl, rfl, quad4_eq k_n5 u1 u2 u3 u4, bw⟩
        · go_simp
          refine hK.out _ _ ⟨cka hHeld.1, cka hHeld.2.1, cka hHeld.2.2.1, cka hHeld.2.2.2⟩ (fun hHeld => ?_)
          clear hK K
          (try simp only [List.setIfInBounds_toArray, List.set_cons_zero, List.set_cons_succ])
          obtain ⟨X6, g6, eY, eg⟩ : ∃ Y g, Y = X2.alloc (.cells #[.int .i64 0, .int .i64 0, .int .i64 0, .int .i64 0] 25) ∧ g = X2.heap.size := ⟨_, _, rfl, rfl⟩
          rw [← eY, ← eg]
          rw [← eY] at hHeld
          have bc : Below X2.heap.size X2 X6 := by rw [eY]; exact (Below.refl _ _).alloc (Nat.le_refl _) _
          have k_n5 : X6.heap[g6]? = some (.cells #[.int .i64 0, .int .i64 0, .int .i64 0, .int .i64 0] 25 (0, 0)) := by rw [eY, eg]; exact heap_alloc_new X2 _
          have lo_n5 : w.heap.size ≤ g6 := by rw [eg]; exact bw.size
          replace bw := bs bc bw
          (try replace r1 := (r1.below bc).more bc.size)
          clear bc eY eg
          refine wpAnyH_ready (rs := [7]) (by kernel_rfl) (by simp) ?_
          refine (AllReadyH.cons rfl (fun K hK => ?_) AllReadyH.nil)
          go_simp
          refine (palConv4 n cp1 A1 qs (q.a) (q.b) (q.c) (q.d) _ r1 h0).mono ?_
          rintro e X7 ⟨i, x, rfl, hx0, hf0, bc⟩
          refine hK.out _ _ ⟨ck bc hHeld.1, ck bc hHeld.2.1, ck bc hHeld.2.2.1, ck bc hHeld.2.2.2⟩ (fun hHeld => ?_)
          clear hK K
          (try simp only [List.setIfInBounds_toArray, List.set_cons_zero, List.set_cons_succ])
          replace k_n5 := bk bc k_n5
          replace bw := bs bc bw
          (try replace r1 := (r1.below bc).more bc.size)
          have Hx := Lib.hid hx0
          have Fi := Lib.hid hf0
          clear hx0 hf0
          clear bc
          refine takx (i := 8) (D := 21) (v := .tuple #[.agg #[.int .i64 (x.a % 256), .int .i64 (x.b % 256), .int .i64 (x.c % 256), .int .i64 (x.d % 256)], .bool true]) rfl rfl (by kernel_rfl) (by kernel_rfl) (by kernel_rfl) (fun _ _ _ h => h) (Or.inl ⟨by rfl, fun W hSw => by (try dsimp only at hSw); go_simp⟩) (by assumption) ?_
          (try simp only [List.setIfInBounds_toArray, List.set_cons_zero, List.set_cons_succ])
          refine takx (i := 9) (D := 30) (v := .agg #[.int .i64 (x.a % 256), .int .i64 (x.b % 256), .int .i64 (x.c % 256), .int .i64 (x.d % 256)]) rfl rfl (by kernel_rfl) (by kernel_rfl) (by kernel_rfl) (fun _ _ _ h => h) (Or.inl ⟨by rfl, fun W hSw => by (try dsimp only at hSw); go_simp⟩) (by assumption) ?_
          (try simp only [List.setIfInBounds_toArray, List.set_cons_zero, List.set_cons_succ])
          refine takx (i := 10) (D := 31) (v := .bool true) rfl rfl (by kernel_rfl) (by kernel_rfl) (by kernel_rfl) (fun _ _ _ h => h) (Or.inl ⟨by rfl, fun W hSw => by (try dsimp only at hSw); go_simp⟩) (by assumption) ?_
          (try simp only [List.setIfInBounds_toArray, List.set_cons_zero, List.set_cons_succ])
          refine wpAnyH_ready (rs := [12]) (by kernel_rfl) (by simp) ?_
          refine (AllReadyH.cons rfl (fun K hK => ?_) AllReadyH.nil)
          have qq := q4c k_n5
          go_simp
          clear qq
          refine hK.out _ _ ⟨(cks (by first | assumption | (dsimp only; omega)) (cks (by first | assumption | (dsimp only; omega)) (cks (by first | assumption | (dsimp only; omega)) (cks (by first | assumption | (dsimp only; omega)) hHeld.1)))), (cks (by first | assumption | (dsimp only; omega)) (cks (by first | assumption | (dsimp only; omega)) (cks (by first | assumption | (dsimp only; omega)) (cks (by first | assumption | (dsimp only; omega)) hHeld.2.1)))), (cks (by first | assumption | (dsimp only; omega)) (cks (by first | assumption | (dsimp only; omega)) (cks (by first | assumption | (dsimp only; omega)) (cks (by first | assumption | (dsimp only; omega)) hHeld.2.2.1)))), (cks (by first | assumption | (dsimp only; omega)) (cks (by first | assumption | (dsimp only; omega)) (cks (by first | assumption | (dsimp only; omega)) (cks (by first | assumption | (dsimp only; omega)) hHeld.2.2.2))))⟩ (fun hHeld => ?_)
          clear hK K
          (try simp only [List.setIfInBounds_toArray, List.set_cons_zero, List.set_cons_succ])
          obtain ⟨X8, eY⟩ : ∃ Y, Y = ((((X7.setCell ⟨g6, 0, none⟩ (.int .i64 (x.a % 256))).setCell ⟨g6, 1, none⟩ (.int .i64 (x.b % 256))).setCell ⟨g6, 2, none⟩ (.int .i64 (x.c % 256))).setCell ⟨g6, 3, none⟩ (.int .i64 (x.d % 256))) := ⟨_, rfl⟩
          rw [← eY] at hHeld ⊢
          replace bw : Below w.heap.size w X8 := by rw [eY]; exact (bss lo_n5 (bss lo_n5 (bss lo_n5 (bss lo_n5 bw))))
          replace k_n5 : X8.heap[g6]? = some (.cells #[.int .i64 (x.a % 256), .int .i64 (x.b % 256), .int .i64 (x.c % 256), .int .i64 (x.d % 256)] 25 (0, 0)) := by rw [eY]; exact q4s k_n5
          clear eY
          refine takx (i := 13) (D := 6) (v := .bool true) rfl rfl (by kernel_rfl) (by kernel_rfl) (by kernel_rfl) (fun _ _ _ h => h) (Or.inl ⟨by rfl, fun W hSw => by (try dsimp only at hSw); go_simp⟩) (by assumption) ?_
          (try simp only [List.setIfInBounds_toArray, List.set_cons_zero, List.set_cons_succ])
          refine wpAnyH_done (by kernel_rfl) ?_ _
          go_wp2_with fail
          go_meet
          obtain ⟨u1, u2, u3, u4, _⟩ := near_own HO.out HM.out (c := q) rfl rfl rfl H5.out Fi.out Hx.out
          exact ⟨_, rfl, rfl, quad4_eq k_n5 u1 u2 u3 u4, bw⟩
      · go_simp
        refine hK.out _ _ ⟨cka hHeld.1, cka hHeld.2.1, cka hHeld.2.2.1, cka hHeld.2.2.2⟩ (fun hHeld => ?_)
        clear hK K
        (try simp only [List.setIfInBounds_toArray, List.set_cons_zero, List.set_cons_succ])
        obtain ⟨X9, g9, eY, eg⟩ : ∃ Y g, Y = X1.alloc (.cells #[.int .i64 0, .int .i64 0, .int .i64 0, .int .i64 0] 25) ∧ g = X1.heap.size := ⟨_, _, rfl, rfl⟩
        rw [← eY, ← eg]
        rw [← eY] at hHeld
        have bc : Below X1.heap.size X1 X9 := by rw [eY]; exact (Below.refl _ _).alloc (Nat.le_refl _) _
        have k_n5 : X9.heap[g9]? = some (.cells #[.int .i64 0, .int .i64 0, .int .i64 0, .int .i64 0] 25 (0, 0)) := by rw [eY, eg]; exact heap_alloc_new X1 _
        have lo_n5 : w.heap.size ≤ g9 := by rw [eg]; exact bw.size
        replace bw := bs bc bw
        (try replace r1 := (r1.below bc).more bc.size)
        clear bc eY eg
        refine wpAnyH_ready (rs := [6]) (by kernel_rfl) (by simp) ?_
        refine (AllReadyH.cons rfl (fun K hK => ?_) AllReadyH.nil)
        go_simp
        refine (toColor4 q.a q.b q.c q.d _).mono ?_
        rintro e X10 ⟨rfl, bc⟩
        refine hK.out _ _ ⟨ck bc hHeld.1, ck bc hHeld.2.1, ck bc hHeld.2.2.1, ck bc hHeld.2.2.2⟩ (fun hHeld => ?_)
        clear hK K
        (try simp only [List.setIfInBounds_toArray, List.set_cons_zero, List.set_cons_succ])
        replace k_n5 := bk bc k_n5
        replace bw := bs bc bw
        (try replace r1 := (r1.below bc).more bc.size)
        clear bc
        refine wpAnyH_ready (rs := [7]) (by kernel_rfl) (by simp) ?_
        refine (AllReadyH.cons rfl (fun K hK => ?_) AllReadyH.nil)
        go_simp
        refine (palConv4 n cp1 A1 qs (q.a) (q.b) (q.c) (q.d) _ r1 h0).mono ?_
        rintro e X11 ⟨i, x, rfl, hx0, hf0, bc⟩
        refine hK.out _ _ ⟨ck bc hHeld.1, ck bc hHeld.2.1, ck bc hHeld.2.2.1, ck bc hHeld.2.2.2⟩ (fun hHeld => ?_)
        clear hK K
        (try simp only [List.setIfInBounds_toArray, List.set_cons_zero, List.set_cons_succ])
        replace k_n5 := bk bc k_n5
        replace bw := bs bc bw
        (try replace r1 := (r1.below bc).more bc.size)
        have Hx := Lib.hid hx0
        have Fi := Lib.hid hf0
        clear hx0 hf0
        clear bc
        refine takx (i := 8) (D := 21) (v := .tuple #[.agg #[.int .i64 (x.a % 256), .int .i64 (x.b % 256), .int .i64 (x.c % 256), .int .i64 (x.d % 256)], .bool true]) rfl rfl (by kernel_rfl) (by kernel_rfl) (by kernel_rfl) (fun _ _ _ h => h) (Or.inl ⟨by rfl, fun W hSw => by (try dsimp only at hSw); go_simp⟩) (by assumption) ?_
        (try simp only [List.setIfInBounds_toArray, List.set_cons_zero, List.set_cons_succ])
        refine takx (i := 9) (D := 30) (v := .agg #[.int .i64 (x.a % 256), .int .i64 (x.b % 256), .int .i64 (x.c % 256), .int .i64 (x.d % 256)]) rfl rfl (by kernel_rfl) (by kernel_rfl) (by kernel_rfl) (fun _ _ _ h => h) (Or.inl ⟨by rfl, fun W hSw => by (try dsimp only at hSw); go_simp⟩) (by assumption) ?_
        (try simp only [List.setIfInBounds_toArray, List.set_cons_zero, List.set_cons_succ])
        refine takx (i := 10) (D := 31) (v := .bool true) rfl rfl (by kernel_rfl) (by kernel_rfl) (by kernel_rfl) (fun _ _ _ h => h) (Or.inl ⟨by rfl, fun W hSw => by (try dsimp only at hSw); go_simp⟩) (by assumption) ?_
        (try simp only [List.setIfInBounds_toArray, List.set_cons_zero, List.set_cons_succ])
        refine wpAnyH_ready (rs := [12]) (by kernel_rfl) (by simp) ?_
        refine (AllReadyH.cons rfl (fun K hK => ?_) AllReadyH.nil)
        have qq := q4c k_n5
        go_simp
        clear qq
        refine hK.out _ _ ⟨(cks (by first | assumption | (dsimp only; omega)) (cks (by first | assumption | (dsimp only; omega)) (cks (by first | assumption | (dsimp only; omega)) (cks (by first | assumption | (dsimp only; omega)) hHeld.1)))), (cks (by first | assumption | (dsimp only; omega)) (cks (by first | assumption | (dsimp only; omega)) (cks (by first | assumption | (dsimp only; omega)) (cks (by first | assumption | (dsimp only; omega)) hHeld.2.1)))), (cks (by first | assumption | (dsimp only; omega)) (cks (by first | assumption | (dsimp only; omega)) (cks (by first | assumption | (dsimp only; omega)) (cks (by first | assumption | (dsimp only; omega)) hHeld.2.2.1)))), (cks (by first | assumption | (dsimp only; omega)) (cks (by first | assumption | (dsimp only; omega)) (cks (by first | assumption | (dsimp only; omega)) (cks (by first | assumption | (dsimp only; omega)) hHeld.2.2.2))))⟩ (fun hHeld => ?_)
        clear hK K
        (try simp only [List.setIfInBounds_toArray, List.set_cons_zero, List.set_cons_succ])
        obtain ⟨X12, eY⟩ : ∃ Y, Y = ((((X11.setCell ⟨g9, 0, none⟩ (.int .i64 (x.a % 256))).setCell ⟨g9, 1, none⟩ (.int .i64 (x.b % 256))).setCell ⟨g9, 2, none⟩ (.int .i64 (x.c % 256))).setCell ⟨g9, 3, none⟩ (.int .i64 (x.d % 256))) := ⟨_, rfl⟩
        rw [← eY] at hHeld ⊢
        replace bw : Below w.heap.size w X12 := by rw [eY]; exact (bss lo_n5 (bss lo_n5 (bss lo_n5 (bss lo_n5 bw))))
        replace k_n5 : X12.heap[g9]? = some (.cells #[.int .i64 (x.a % 256), .int .i64 (x.b % 256), .int .i64 (x.c % 256), .int .i64 (x.d % 256)] 25 (0, 0)) := by rw [eY]; exact q4s k_n5
        clear eY
        refine takx (i := 13) (D := 6) (v := .bool true) rfl rfl (by kernel_rfl) (by kernel_rfl) (by kernel_rfl) (fun _ _ _ h => h) (Or.inl ⟨by rfl, fun W hSw => by (try dsimp only at hSw); go_simp⟩) (by assumption) ?_
        (try simp only [List.setIfInBounds_toArray, List.set_cons_zero, List.set_cons_succ])
        refine wpAnyH_done (by kernel_rfl) ?_ _
        go_wp2_with fail
        go_meet
        obtain ⟨u1, u2, u3, u4, _⟩ := near_own HO.out HM.out (c := q) rfl rfl rfl H5.out Fi.out Hx.out
        exact ⟨_, rfl, rfl, quad4_eq k_n5 u1 u2 u3 u4, bw⟩
    · go_simp
      refine hK.out _ _ ⟨cka hHeld.1, cka hHeld.2.1, cka hHeld.2.2.1, cka hHeld.2.2.2⟩ (fun hHeld => ?_)
      clear hK K
      (try simp only [List.setIfInBounds_toArray, List.set_cons_zero, List.set_cons_succ])
      obtain ⟨X13, g13, eY, eg⟩ : ∃ Y g, Y = X0.alloc (.cells #[.int .i64 0, .int .i64 0, .int .i64 0, .int .i64 0] 25) ∧ g = X0.heap.size := ⟨_, _, rfl, rfl⟩
      rw [← eY, ← eg]
      rw [← eY] at hHeld
      have bc : Below X0.heap.size X0 X13 := by rw [eY]; exact (Below.refl _ _).alloc (Nat.le_refl _) _
      have k_n5 : X13.heap[g13]? = some (.cells #[.int .i64 0, .int .i64 0, .int .i64 0, .int .i64 0] 25 (0, 0)) := by rw [eY, eg]; exact heap_alloc_new X0 _
      have lo_n5 : w.heap.size ≤ g13 := by rw [eg]; exact bw.size
      replace bw := bs bc bw
      (try replace r1 := (r1.below bc).more bc.size)
      clear bc eY eg
      refine wpAnyH_ready (rs := [1]) (by kernel_rfl) (by simp) ?_
      refine (AllReadyH.cons rfl (fun K hK => ?_) AllReadyH.nil)
      go_simp
      refine (toColors_any n cp (some ⟨b, off, none⟩) qs _ ((HR.out.below bw).more bw.size)).mono ?_
      rintro e X14 ⟨A1, cp1, rfl, r1, lo1, bc⟩
      refine hK.out _ _ ⟨ck bc hHeld.1, ck bc hHeld.2.1, ck bc hHeld.2.2.1, ck bc hHeld.2.2.2⟩ (fun hHeld => ?_)
      clear hK K
      (try simp only [List.setIfInBounds_toArray, List.set_cons_zero, List.set_cons_succ])
      replace k_n5 := bk bc k_n5
      replace bw := bs bc bw
      (try replace r1 := (r1.below bc).more bc.size)
      clear bc
      refine wpAnyH_ready (rs := [6]) (by kernel_rfl) (by simp) ?_
      refine (AllReadyH.cons rfl (fun K hK => ?_) AllReadyH.nil)
      go_simp
      refine (toColor4 q.a q.b q.c q.d _).mono ?_
      rintro e X15 ⟨rfl, bc⟩
      refine hK.out _ _ ⟨ck bc hHeld.1, ck bc hHeld.2.1, ck bc hHeld.2.2.1, ck bc hHeld.2.2.2⟩ (fun hHeld => ?_)
      clear hK K
      (try simp only [List.setIfInBounds_toArray, List.set_cons_zero, List.set_cons_succ])
      replace k_n5 := bk bc k_n5
      replace bw := bs bc bw
      (try replace r1 := (r1.below bc).more bc.size)
      clear bc
      refine wpAnyH_ready (rs := [7]) (by kernel_rfl) (by simp) ?_
      refine (AllReadyH.cons rfl (fun K hK => ?_) AllReadyH.nil)
      go_simp
      refine (palConv4 n cp1 A1 qs (q.a) (q.b) (q.c) (q.d) _ r1 h0).mono ?_
      rintro e X16 ⟨i, x, rfl, hx0, hf0, bc⟩
      refine hK.out _ _ ⟨ck bc hHeld.1, ck bc hHeld.2.1, ck bc hHeld.2.2.1, ck bc hHeld.2.2.2⟩ (fun hHeld => ?_)
      clear hK K
      (try simp only [List.setIfInBounds_toArray, List.set_cons_zero, List.set_cons_succ])
      replace k_n5 := bk bc k_n5
      replace bw := bs bc bw
      (try replace r1 := (r1.below bc).more bc.size)
      have Hx := Lib.hid hx0
      have Fi := Lib.hid hf0
      clear hx0 hf0
      clear bc
      refine takx (i := 8) (D := 21) (v := .tuple #[.agg #[.int .i64 (x.a % 256), .int .i64 (x.b % 256), .int .i64 (x.c % 256), .int .i64 (x.d % 256)], .bool true]) rfl rfl (by kernel_rfl) (by kernel_rfl) (by kernel_rfl) (fun _ _ _ h => h) (Or.inl ⟨by rfl, fun W hSw => by (try dsimp only at hSw); go_simp⟩) (by assumption) ?_
      (try simp only [List.setIfInBounds_toArray, List.set_cons_zero, List.set_cons_succ])
      refine takx (i := 9) (D := 30) (v := .agg #[.int .i64 (x.a % 256), .int .i64 (x.b % 256), .int .i64 (x.c % 256), .int .i64 (x.d % 256)]) rfl rfl (by kernel_rfl) (by kernel_rfl) (by kernel_rfl) (fun _ _ _ h => h) (Or.inl ⟨by rfl, fun W hSw => by (try dsimp only at hSw); go_simp⟩) (by assumption) ?_
      (try simp only [List.setIfInBounds_toArray, List.set_cons_zero, List.set_cons_succ])
      refine takx (i := 10) (D := 31) (v := .bool true) rfl rfl (by kernel_rfl) (by kernel_rfl) (by kernel_rfl) (fun _ _ _ h => h) (Or.inl ⟨by rfl, fun W hSw => by (try dsimp only at hSw); go_simp⟩) (by assumption) ?_
      (try simp only [List.setIfInBounds_toArray, List.set_cons_zero, List.set_cons_succ])
      refine wpAnyH_ready (rs := [12]) (by kernel_rfl) (by simp) ?_
      refine (AllReadyH.cons rfl (fun K hK => ?_) AllReadyH.nil)
      have qq := q4c k_n5
      go_simp
      clear qq
      refine hK.out _ _ ⟨(cks (by first | assumption | (dsimp only; omega)) (cks (by first | assumption | (dsimp only; omega)) (cks (by first | assumption | (dsimp only; omega)) (cks (by first | assumption | (dsimp only; omega)) hHeld.1)))), (cks (by first | assumption | (dsimp only; omega)) (cks (by first | assumption | (dsimp only; omega)) (cks (by first | assumption | (dsimp only; omega)) (cks (by first | assumption | (dsimp only; omega)) hHeld.2.1)))), (cks (by first | assumption | (dsimp only; omega)) (cks (by first | assumption | (dsimp only; omega)) (cks (by first | assumption | (dsimp only; omega)) (cks (by first | assumption | (dsimp only; omega)) hHeld.2.2.1)))), (cks (by first | assumption | (dsimp only; omega)) (cks (by first | assumption | (dsimp only; omega)) (cks (by first | assumption | (dsimp only; omega)) (cks (by first | assumption | (dsimp only; omega)) hHeld.2.2.2))))⟩ (fun hHeld => ?_)
      clear hK K
      (try simp only [List.setIfInBounds_toArray, List.set_cons_zero, List.set_cons_succ])
      obtain ⟨X17, eY⟩ : ∃ Y, Y = ((((X16.setCell ⟨g13, 0, none⟩ (.int .i64 (x.a % 256))).setCell ⟨g13, 1, none⟩ (.int .i64 (x.b % 256))).setCell ⟨g13, 2, none⟩ (.int .i64 (x.c % 256))).setCell ⟨g13, 3, none⟩ (.int .i64 (x.d % 256))) := ⟨_, rfl⟩
      rw [← eY] at hHeld ⊢
      replace bw : Below w.heap.size w X17 := by rw [eY]; exact (bss lo_n5 (bss lo_n5 (bss lo_n5 (bss lo_n5 bw))))
      replace k_n5 : X17.heap[g13]? = some (.cells #[.int .i64 (x.a % 256), .int .i64 (x.b % 256), .int .i64 (x.c % 256), .int .i64 (x.d % 256)] 25 (0, 0)) := by rw [eY]; exact q4s k_n5
      clear eY
      refine takx (i := 13) (D := 6) (v := .bool true) rfl rfl (by kernel_rfl) (by kernel_rfl) (by kernel_rfl) (fun _ _ _ h => h) (Or.inl ⟨by rfl, fun W hSw => by (try dsimp only at hSw); go_simp⟩) (by assumption) ?_
      (try simp only [List.setIfInBounds_toArray, List.set_cons_zero, List.set_cons_succ])
      refine wpAnyH_done (by kernel_rfl) ?_ _
      go_wp2_with fail
      go_meet
      obtain ⟨u1, u2, u3, u4, _⟩ := near_own HO.out HM.out (c := q) rfl rfl rfl H5.out Fi.out Hx.out
      exact ⟨_, rfl, rfl, quad4_eq k_n5 u1 u2 u3 u4, bw⟩
  case rest =>
    clear bw e1 e2 e3 e4
    obtain ⟨g, rfl, rfl, k_x, BW⟩ := hcut
    have bw := BW.out
    obtain ⟨e1, e2, e3, e4⟩ := (HR.out.below bw).at hk
    rw [HQ.out] at e1 e2 e3 e4
    go_upto_region 4 with fail
    refine wp_region_held_drew (S := fun w' => w'.cell? ⟨b, off + k * 4, none⟩ = some (.int .i64 q.a) ∧ w'.cell? ⟨b, off + k * 4 + 1, none⟩ = some (.int .i64 q.b) ∧ w'.cell? ⟨b, off + k * 4 + 2, none⟩ = some (.int .i64 q.c) ∧ w'.cell? ⟨b, off + k * 4 + 3, none⟩ = some (.int .i64 q.d)) (by kernel_rfl) ⟨(by assumption), (by assumption), (by assumption), (by assumption)⟩ ?_
    intro hHeld
    obtain ⟨X0, eX, bc⟩ : ∃ X, X = wc.drew ∧ Below wc.heap.size wc X := ⟨_, rfl, (Below.refl _ _).drew⟩
    rw [← eX] at hHeld ⊢
    replace k_x := bk bc k_x
    replace bw := bs bc bw
    (try replace r1 := (r1.below bc).more bc.size)
    clear eX bc
    refine takx (i := 0) (D := 32) (v := .slice (some ⟨b, off, none⟩) n cp) rfl rfl (by kernel_rfl) (by kernel_rfl) (by kernel_rfl) (fun _ _ _ h => h) (Or.inl ⟨by rfl, fun W hSw => by (try dsimp only at hSw); go_simp⟩) (by assumption) ?_
    (try simp only [List.setIfInBounds_toArray, List.set_cons_zero, List.set_cons_succ])
    refine takx (i := 2) (D := 34) (v := .slice (some ⟨b, off, none⟩) n cp) rfl rfl (by kernel_rfl) (by kernel_rfl) (by kernel_rfl) (fun _ _ _ h => h) (Or.inl ⟨by rfl, fun W hSw => by (try dsimp only at hSw); go_simp⟩) (by assumption) ?_
    (try simp only [List.setIfInBounds_toArray, List.set_cons_zero, List.set_cons_succ])
    refine takx (i := 3) (D := 35) (v := .int .i64 k) rfl rfl (by kernel_rfl) (by kernel_rfl) (by kernel_rfl) (fun _ _ _ h => h) (Or.inl ⟨by rfl, fun W hSw => by (try dsimp only at hSw); go_simp⟩) (by assumption) ?_
    (try simp only [List.setIfInBounds_toArray, List.set_cons_zero, List.set_cons_succ])
    refine takx (i := 4) (D := 36) (v := .pointer (some ⟨b, off + k * 4, none⟩)) rfl rfl (by kernel_rfl) (by kernel_rfl) (by kernel_rfl) (fun _ _ _ h => h) (Or.inl ⟨by rfl, fun W hSw => by (try dsimp only at hSw); go_simp⟩) (by assumption) ?_
    (try simp only [List.setIfInBounds_toArray, List.set_cons_zero, List.set_cons_succ])
    refine takx (i := 5) (D := 37) (v := .agg #[.int .i64 q.a, .int .i64 q.b, .int .i64 q.c, .int .i64 q.d]) rfl rfl (by kernel_rfl) (by kernel_rfl) (by kernel_rfl) (fun _ _ _ h => h) (Or.inl ⟨by rfl, fun W hSw => by (try dsimp only at hSw); go_simp⟩) (by assumption) ?_
    (try simp only [List.setIfInBounds_toArray, List.set_cons_zero, List.set_cons_succ])
    refine wpAnyH_ready (rs := [1]) (by kernel_rfl) (by simp) ?_
    refine (AllReadyH.cons rfl (fun K hK => ?_) AllReadyH.nil)
    go_simp
    refine (toColors_any n cp (some ⟨b, off, none⟩) qs _ ((HR.out.below bw).more bw.size)).mono ?_
    rintro e X1 ⟨A1, cp1, rfl, r1, lo1, bc⟩
    refine hK.out _ _ ⟨ck bc hHeld.1, ck bc hHeld.2.1, ck bc hHeld.2.2.1, ck bc hHeld.2.2.2⟩ (fun hHeld => ?_)
    clear hK K
    (try simp only [List.setIfInBounds_toArray, List.set_cons_zero, List.set_cons_succ])
    replace k_x := bk bc k_x
    replace bw := bs bc bw
    (try replace r1 := (r1.below bc).more bc.size)
    clear bc
    refine wpAnyH_ready (rs := [6]) (by kernel_rfl) (by simp) ?_
    refine (AllReadyH.cons rfl (fun K hK => ?_) AllReadyH.nil)
    go_simp
    refine (toColor4 q.a q.b q.c q.d _).mono ?_
    rintro e X2 ⟨rfl, bc⟩
    refine hK.out _ _ ⟨ck bc hHeld.1, ck bc hHeld.2.1, ck bc hHeld.2.2.1, ck bc hHeld.2.2.2⟩ (fun hHeld => ?_)
    clear hK K
    (try simp only [List.setIfInBounds_toArray, List.set_cons_zero, List.set_cons_succ])
    replace k_x := bk bc k_x
    replace bw := bs bc bw
    (try replace r1 := (r1.below bc).more bc.size)
    clear bc
    refine wpAnyH_ready (rs := [7]) (by kernel_rfl) (by simp) ?_
    refine (AllReadyH.cons rfl (fun K hK => ?_) AllReadyH.nil)
    go_simp
    refine (palIndex4 n cp1 A1 qs (q.a) (q.b) (q.c) (q.d) _ r1).mono ?_
    rintro e X3 ⟨j, rfl, hf0, bc⟩
    refine hK.out _ _ ⟨ck bc hHeld.1, ck bc hHeld.2.1, ck bc hHeld.2.2.1, ck bc hHeld.2.2.2⟩ (fun hHeld => ?_)
    clear hK K
    (try simp only [List.setIfInBounds_toArray, List.set_cons_zero, List.set_cons_succ])
    replace k_x := bk bc k_x
    replace bw := bs bc bw
    (try replace r1 := (r1.below bc).more bc.size)
    have Fj := Lib.hid hf0
    clear hf0
    clear bc
    refine takx (i := 8) (D := 7) (v := .int .i64 j) rfl rfl (by kernel_rfl) (by kernel_rfl) (by kernel_rfl) (fun _ _ _ h => h) (Or.inl ⟨by rfl, fun W hSw => by (try dsimp only at hSw); go_simp⟩) (by assumption) ?_
    (try simp only [List.setIfInBounds_toArray, List.set_cons_zero, List.set_cons_succ])
    refine wpAnyH_done (by kernel_rfl) ?_ _
    have hj : j < n := by have := Fj.out.lt (by rw [List.length_map, HR.out.1]; exact h0); rwa [List.length_map, HR.out.1] at this
    have HYM := Lib.hid (HR.out.2.2.1 _ (getD_mem qs j (by rw [HR.out.1]; exact hj)))
    generalize hy : qs.getD j default = y at HYM
    have HYE := Lib.hid hy
    clear hy
    obtain ⟨u1, u2, u3, u4, _⟩ := near_own HO.out HM.out (c := q) rfl rfl rfl H5.out Fj.out HYE.out.symm
    have HY : Hid (Q4.ok y) := HYM
    clear hHeld r1
    obtain ⟨W2, eW⟩ : ∃ W, W = X3 := ⟨_, rfl⟩
    rw [← eW] at bw k_x ⊢
    clear eW
    obtain ⟨e1, e2, e3, e4⟩ := (HR.out.below bw).at hk
    rw [HQ.out] at e1 e2 e3 e4
    obtain ⟨f1, f2, f3, f4⟩ := (HR.out.below bw).at hj
    rw [HYE.out] at f1 f2 f3 f4
    have j1 : (j : Int) < (n : Int) := by omega
    have j0 : (0 : Int) ≤ (j : Int) := by omega
    have hcy : ∀ W : World, (binOp .eql 25 (.agg #[.int .i64 (y.a % 256), .int .i64 (y.b % 256), .int .i64 (y.c % 256), .int .i64 (y.d % 256)]) (.agg #[.int .i64 (q.a % 256), .int .i64 (q.b % 256), .int .i64 (q.c % 256), .int .i64 (q.d % 256)])).run Try.prog W = .ok (.bool true) W := fun W => by rw [u1, u2, u3, u4]; exact col_same _ _ _ _ W
    clear u1 u2 u3 u4
    go_upto_region 5 with fail
    refine wp_region_held_drew (S := fun w' => w'.cell? ⟨g, 0, none⟩ = some (.int .i64 (q.a % 256)) ∧ w'.cell? ⟨g, 1, none⟩ = some (.int .i64 (q.b % 256)) ∧ w'.cell? ⟨g, 2, none⟩ = some (.int .i64 (q.c % 256)) ∧ w'.cell? ⟨g, 3, none⟩ = some (.int .i64 (q.d % 256)) ∧ w'.cell? ⟨b, off + k * 4, none⟩ = some (.int .i64 q.a) ∧ w'.cell? ⟨b, off + k * 4 + 1, none⟩ = some (.int .i64 q.b) ∧ w'.cell? ⟨b, off + k * 4 + 2, none⟩ = some (.int .i64 q.c) ∧ w'.cell? ⟨b, off + k * 4 + 3, none⟩ = some (.int .i64 q.d) ∧ w'.cell? ⟨b, off + j * 4, none⟩ = some (.int .i64 y.a) ∧ w'.cell? ⟨b, off + j * 4 + 1, none⟩ = some (.int .i64 y.b) ∧ w'.cell? ⟨b, off + j * 4 + 2, none⟩ = some (.int .i64 y.c) ∧ w'.cell? ⟨b, off + j * 4 + 3, none⟩ = some (.int .i64 y.d)) (by kernel_rfl) ⟨(q4c k_x).1.1, (q4c k_x).1.2.1, (q4c k_x).1.2.2.1, (q4c k_x).1.2.2.2, (by assumption), (by assumption), (by assumption), (by assumption), (by assumption), (by assumption), (by assumption), (by assumption)⟩ ?_
    intro hHeld
    obtain ⟨X0, eX, bc⟩ : ∃ X, X = W2.drew ∧ Below W2.heap.size W2 X := ⟨_, rfl, (Below.refl _ _).drew⟩
    rw [← eX] at hHeld ⊢
    replace k_x := bk bc k_x
    replace bw := bs bc bw
    clear eX bc
    refine takx (i := 0) (D := 40) (v := .bool true) rfl rfl (by kernel_rfl) (by kernel_rfl) (by kernel_rfl) (fun _ _ _ h => h) (Or.inl ⟨by rfl, fun W hSw => by (try dsimp only at hSw); go_simp⟩) (by assumption) ?_
    (try simp only [List.setIfInBounds_toArray, List.set_cons_zero, List.set_cons_succ])
    refine takx (i := 1) (D := 41) (v := .bool true) rfl rfl (by kernel_rfl) (by kernel_rfl) (by kernel_rfl) (fun _ _ _ h => h) (Or.inl ⟨by rfl, fun W hSw => by (try dsimp only at hSw); go_simp⟩) (by assumption) ?_
    (try simp only [List.setIfInBounds_toArray, List.set_cons_zero, List.set_cons_succ])
    refine takx (i := 2) (D := 42) (v := .agg #[.int .i64 (q.a % 256), .int .i64 (q.b % 256), .int .i64 (q.c % 256), .int .i64 (q.d % 256)]) rfl rfl (by kernel_rfl) (by kernel_rfl) (by kernel_rfl) (fun _ _ _ h => h) (Or.inl ⟨by rfl, fun W hSw => by (try dsimp only at hSw); go_simp⟩) (by assumption) ?_
    (try simp only [List.setIfInBounds_toArray, List.set_cons_zero, List.set_cons_succ])
    refine takx (i := 3) (D := 43) (v := .slice (some ⟨b, off, none⟩) n cp) rfl rfl (by kernel_rfl) (by kernel_rfl) (by kernel_rfl) (fun _ _ _ h => h) (Or.inl ⟨by rfl, fun W hSw => by (try dsimp only at hSw); go_simp⟩) (by assumption) ?_
    (try simp only [List.setIfInBounds_toArray, List.set_cons_zero, List.set_cons_succ])
    refine takx (i := 4) (D := 44) (v := .int .i64 k) rfl rfl (by kernel_rfl) (by kernel_rfl) (by kernel_rfl) (fun _ _ _ h => h) (Or.inl ⟨by rfl, fun W hSw => by (try dsimp only at hSw); go_simp⟩) (by assumption) ?_
    (try simp only [List.setIfInBounds_toArray, List.set_cons_zero, List.set_cons_succ])
    refine takx (i := 5) (D := 45) (v := .pointer (some ⟨b, off + k * 4, none⟩)) rfl rfl (by kernel_rfl) (by kernel_rfl) (by kernel_rfl) (fun _ _ _ h => h) (Or.inl ⟨by rfl, fun W hSw => by (try dsimp only at hSw); go_simp⟩) (by assumption) ?_
    (try simp only [List.setIfInBounds_toArray, List.set_cons_zero, List.set_cons_succ])
    refine takx (i := 6) (D := 46) (v := .agg #[.int .i64 q.a, .int .i64 q.b, .int .i64 q.c, .int .i64 q.d]) rfl rfl (by kernel_rfl) (by kernel_rfl) (by kernel_rfl) (fun _ _ _ h => h) (Or.inl ⟨by rfl, fun W hSw => by (try dsimp only at hSw); go_simp⟩) (by assumption) ?_
    (try simp only [List.setIfInBounds_toArray, List.set_cons_zero, List.set_cons_succ])
    refine wpAnyH_ready (rs := [7]) (by kernel_rfl) (by simp) ?_
    refine (AllReadyH.cons rfl (fun K hK => ?_) AllReadyH.nil)
    go_simp
    refine (lowColor4 q HC.out _).mono ?_
    rintro e X1 ⟨rfl, bc⟩
    refine hK.out _ _ ⟨ck bc hHeld.1, ck bc hHeld.2.1, ck bc hHeld.2.2.1, ck bc hHeld.2.2.2.1, ck bc hHeld.2.2.2.2.1, ck bc hHeld.2.2.2.2.2.1, ck bc hHeld.2.2.2.2.2.2.1, ck bc hHeld.2.2.2.2.2.2.2.1, ck bc hHeld.2.2.2.2.2.2.2.2.1, ck bc hHeld.2.2.2.2.2.2.2.2.2.1, ck bc hHeld.2.2.2.2.2.2.2.2.2.2.1, ck bc hHeld.2.2.2.2.2.2.2.2.2.2.2⟩ (fun hHeld => ?_)
    clear hK K
    (try simp only [List.setIfInBounds_toArray, List.set_cons_zero, List.set_cons_succ])
    replace k_x := bk bc k_x
    replace bw := bs bc bw
    clear bc
    refine takx (i := 8) (D := 48) (v := .bool true) rfl rfl (by kernel_rfl) (by kernel_rfl) (by kernel_rfl) (fun _ _ _ h => h) (Or.inl ⟨by rfl, fun W hSw => by (try dsimp only at hSw); go_simp⟩) (by assumption) ?_
    (try simp only [List.setIfInBounds_toArray, List.set_cons_zero, List.set_cons_succ])
    refine takx (i := 9) (D := 49) (v := .bool true) rfl rfl (by kernel_rfl) (by kernel_rfl) (by kernel_rfl) (fun _ _ _ h => h) (Or.inl ⟨by rfl, fun W hSw => by (try dsimp only at hSw); go_simp⟩) (by assumption) ?_
    (try simp only [List.setIfInBounds_toArray, List.set_cons_zero, List.set_cons_succ])
    refine takx (i := 10) (D := 50) (v := .bool true) rfl rfl (by kernel_rfl) (by kernel_rfl) (by kernel_rfl) (fun _ _ _ h => h) (Or.inl ⟨by rfl, fun W hSw => by (try dsimp only at hSw); go_simp⟩) (by assumption) ?_
    (try simp only [List.setIfInBounds_toArray, List.set_cons_zero, List.set_cons_succ])
    refine takx (i := 11) (D := 51) (v := .int .i64 j) rfl rfl (by kernel_rfl) (by kernel_rfl) (by kernel_rfl) (fun _ _ _ h => h) (Or.inl ⟨by rfl, fun W hSw => by (try dsimp only at hSw); go_simp⟩) (by assumption) ?_
    (try simp only [List.setIfInBounds_toArray, List.set_cons_zero, List.set_cons_succ])
    refine takx (i := 12) (D := 52) (v := .bool true) rfl rfl (by kernel_rfl) (by kernel_rfl) (by kernel_rfl) (fun _ _ _ h => h) (Or.inl ⟨by rfl, fun W hSw => by (try dsimp only at hSw); go_simp⟩) (by assumption) ?_
    (try simp only [List.setIfInBounds_toArray, List.set_cons_zero, List.set_cons_succ])
    refine takx (i := 13) (D := 53) (v := .bool true) rfl rfl (by kernel_rfl) (by kernel_rfl) (by kernel_rfl) (fun _ _ _ h => h) (Or.inl ⟨by rfl, fun W hSw => by (try dsimp only at hSw); go_simp⟩) (by assumption) ?_
    (try simp only [List.setIfInBounds_toArray, List.set_cons_zero, List.set_cons_succ])
    refine takx (i := 14) (D := 54) (v := .bool true) rfl rfl (by kernel_rfl) (by kernel_rfl) (by kernel_rfl) (fun _ _ _ h => h) (Or.inl ⟨by rfl, fun W hSw => by (try dsimp only at hSw); go_simp⟩) (by assumption) ?_
    (try simp only [List.setIfInBounds_toArray, List.set_cons_zero, List.set_cons_succ])
    refine takx (i := 15) (D := 55) (v := .int .i64 j) rfl rfl (by kernel_rfl) (by kernel_rfl) (by kernel_rfl) (fun _ _ _ h => h) (Or.inl ⟨by rfl, fun W hSw => by (try dsimp only at hSw); go_simp⟩) (by assumption) ?_
    (try simp only [List.setIfInBounds_toArray, List.set_cons_zero, List.set_cons_succ])
    refine takx (i := 16) (D := 56) (v := .slice (some ⟨b, off, none⟩) n cp) rfl rfl (by kernel_rfl) (by kernel_rfl) (by kernel_rfl) (fun _ _ _ h => h) (Or.inl ⟨by rfl, fun W hSw => by (try dsimp only at hSw); go_simp⟩) (by assumption) ?_
    (try simp only [List.setIfInBounds_toArray, List.set_cons_zero, List.set_cons_succ])
    refine takx (i := 17) (D := 57) (v := .int .i64 n) rfl rfl (by kernel_rfl) (by kernel_rfl) (by kernel_rfl) (fun _ _ _ h => h) (Or.inl ⟨by rfl, fun W hSw => by (try dsimp only at hSw); go_simp⟩) (by assumption) ?_
    (try simp only [List.setIfInBounds_toArray, List.set_cons_zero, List.set_cons_succ])
    refine takx (i := 18) (D := 58) (v := .bool true) rfl rfl (by kernel_rfl) (by kernel_rfl) (by kernel_rfl) (fun _ _ _ h => h) (Or.inl ⟨by rfl, fun W hSw => by (try dsimp only at hSw); go_simp⟩) (by assumption) ?_
    (try simp only [List.setIfInBounds_toArray, List.set_cons_zero, List.set_cons_succ])
    refine takx (i := 19) (D := 59) (v := .bool true) rfl rfl (by kernel_rfl) (by kernel_rfl) (by kernel_rfl) (fun _ _ _ h => h) (Or.inl ⟨by rfl, fun W hSw => by (try dsimp only at hSw); go_simp⟩) (by assumption) ?_
    (try simp only [List.setIfInBounds_toArray, List.set_cons_zero, List.set_cons_succ])
    refine takx (i := 20) (D := 60) (v := .bool true) rfl rfl (by kernel_rfl) (by kernel_rfl) (by kernel_rfl) (fun _ _ _ h => h) (Or.inl ⟨by rfl, fun W hSw => by (try dsimp only at hSw); go_simp⟩) (by assumption) ?_
    (try simp only [List.setIfInBounds_toArray, List.set_cons_zero, List.set_cons_succ])
    refine takx (i := 21) (D := 61) (v := .slice (some ⟨b, off, none⟩) n cp) rfl rfl (by kernel_rfl) (by kernel_rfl) (by kernel_rfl) (fun _ _ _ h => h) (Or.inl ⟨by rfl, fun W hSw => by (try dsimp only at hSw); go_simp⟩) (by assumption) ?_
    (try simp only [List.setIfInBounds_toArray, List.set_cons_zero, List.set_cons_succ])
    refine takx (i := 22) (D := 62) (v := .int .i64 j) rfl rfl (by kernel_rfl) (by kernel_rfl) (by kernel_rfl) (fun _ _ _ h => h) (Or.inl ⟨by rfl, fun W hSw => by (try dsimp only at hSw); go_simp⟩) (by assumption) ?_
    (try simp only [List.setIfInBounds_toArray, List.set_cons_zero, List.set_cons_succ])
    refine takx (i := 23) (D := 63) (v := .pointer (some ⟨b, off + j * 4, none⟩)) rfl rfl (by kernel_rfl) (by kernel_rfl) (by kernel_rfl) (fun _ _ _ h => h) (Or.inl ⟨by rfl, fun W hSw => by (try dsimp only at hSw); go_simp⟩) (by assumption) ?_
    (try simp only [List.setIfInBounds_toArray, List.set_cons_zero, List.set_cons_succ])
    refine takx (i := 24) (D := 64) (v := .agg #[.int .i64 y.a, .int .i64 y.b, .int .i64 y.c, .int .i64 y.d]) rfl rfl (by kernel_rfl) (by kernel_rfl) (by kernel_rfl) (fun _ _ _ h => h) (Or.inl ⟨by rfl, fun W hSw => by (try dsimp only at hSw); go_simp⟩) (by assumption) ?_
    (try simp only [List.setIfInBounds_toArray, List.set_cons_zero, List.set_cons_succ])
    refine takx (i := 26) (D := 66) (v := .agg #[.int .i64 (q.a % 256), .int .i64 (q.b % 256), .int .i64 (q.c % 256), .int .i64 (q.d % 256)]) rfl rfl (by kernel_rfl) (by kernel_rfl) (by kernel_rfl) (fun _ _ _ h => h) (Or.inl ⟨by rfl, fun W hSw => by (try dsimp only at hSw); go_simp⟩) (by assumption) ?_
    (try simp only [List.setIfInBounds_toArray, List.set_cons_zero, List.set_cons_succ])
    refine wpAnyH_ready (rs := [25]) (by kernel_rfl) (by simp) ?_
    refine (AllReadyH.cons rfl (fun K hK => ?_) AllReadyH.nil)
    go_simp
    refine (lowColor4 y HY.out _).mono ?_
    rintro e X2 ⟨rfl, bc⟩
    refine hK.out _ _ ⟨ck bc hHeld.1, ck bc hHeld.2.1, ck bc hHeld.2.2.1, ck bc hHeld.2.2.2.1, ck bc hHeld.2.2.2.2.1, ck bc hHeld.2.2.2.2.2.1, ck bc hHeld.2.2.2.2.2.2.1, ck bc hHeld.2.2.2.2.2.2.2.1, ck bc hHeld.2.2.2.2.2.2.2.2.1, ck bc hHeld.2.2.2.2.2.2.2.2.2.1, ck bc hHeld.2.2.2.2.2.2.2.2.2.2.1, ck bc hHeld.2.2.2.2.2.2.2.2.2.2.2⟩ (fun hHeld => ?_)
    clear hK K
    (try simp only [List.setIfInBounds_toArray, List.set_cons_zero, List.set_cons_succ])
    replace k_x := bk bc k_x
    replace bw := bs bc bw
    clear bc
    refine takx (i := 27) (D := 67) (v := .bool true) rfl rfl (by kernel_rfl) (by kernel_rfl) (by kernel_rfl) (fun _ _ _ h => h) (Or.inl ⟨by rfl, fun W hSw => by (try dsimp only at hSw); go_simp⟩) (by assumption) ?_
    (try simp only [List.setIfInBounds_toArray, List.set_cons_zero, List.set_cons_succ])
    refine takx (i := 28) (D := 68) (v := .bool true) rfl rfl (by kernel_rfl) (by kernel_rfl) (by kernel_rfl) (fun _ _ _ h => h) (Or.inl ⟨by rfl, fun W hSw => by (try dsimp only at hSw); go_simp⟩) (by assumption) ?_
    (try simp only [List.setIfInBounds_toArray, List.set_cons_zero, List.set_cons_succ])
    refine takx (i := 29) (D := 4) (v := .bool true) rfl rfl (by kernel_rfl) (by kernel_rfl) (by kernel_rfl) (fun _ _ _ h => h) (Or.inl ⟨by rfl, fun W hSw => by (try dsimp only at hSw); go_simp⟩) (by assumption) ?_
    (try simp only [List.setIfInBounds_toArray, List.set_cons_zero, List.set_cons_succ])
    refine wpAnyH_done (by kernel_rfl) ?_ _
    go_wp2_with fail
    go_ret
    exact ⟨rfl, bw⟩

end Go.Proofs.Ytbhccckfooobcaa

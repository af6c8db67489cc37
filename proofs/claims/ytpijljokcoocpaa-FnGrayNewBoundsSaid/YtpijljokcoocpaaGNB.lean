/-
  The walk of the law FnGrayNewBounds. No condition.
-/
import Derived.Test.YtpijljokcoocpaaGH
import Derived.Test.YtpijljokcoocpaaQ1
import Derived.Test.YtpijljokcoocpaaQAT
namespace Go.Proofs.Ytpijljokcoocpaa
open Go.ChangeShapes Go.WideShapes Go.ChangeAt Go.RowKit
set_option linter.unusedVariables false
set_option linter.unusedSimpArgs false

set_option maxRecDepth 100000 in
set_option maxHeartbeats 2000000 in
theorem fnGrayNewBounds_walk (w : World) (q : Q4) (hq : q.ok) :
    Calls Try.prog 4 #[q.val] w fun e w' => e = .returned (.bool true) ∧ Below w.heap.size w w' := by
  obtain ⟨a, b, c, d⟩ := q
  obtain ⟨ha, hb, hc, hd⟩ := hq
  show Calls Try.prog 4 #[.agg #[.int .i64 a, .int .i64 b, .int .i64 c, .int .i64 d]] w _
  have hrs := rect_same a b c d
  have hrd := rect_diff a b c d
  have hp0 := fun st v => pfld0 a b c d st v
  have hp2 := fun st A n cp => pfld2 a b c d st A n cp
  by_cases hf : Fine a b c d
  case neg =>
    have HF := Lib.hid hf
    clear hf
    go_enter Try.func4, Try.ntmps4
    go_upto_region 1 with fail
    obtain ⟨W, hW⟩ : ∃ W, W = w.alloc (.cells #[.int .i64 a, .int .i64 b, .int .i64 c, .int .i64 d] 23) := ⟨_, rfl⟩
    have bw : Below w.heap.size w W := by rw [hW]; exact bsa (Below.refl _ _)
    have k_r : W.heap[w.heap.size]? = some (.cells #[.int .i64 a, .int .i64 b, .int .i64 c, .int .i64 d] 23 (0, 0)) := by rw [hW]; exact heap_alloc_new w _
    rw [← hW]
    clear hW
    have q_r := q4c k_r
    go_wp2_with fail
    refine (fine_no a b c d ha hb hc hd HF.out _).mono ?_
    rintro e Y1 ⟨rfl, bc⟩
    clear q_r
    replace k_r := bk bc k_r
    replace bw := bst bc bw
    clear bc
    go_wp2
    go_ret
    first | exact ⟨rfl, bw⟩ | exact ⟨trivial, bw⟩
  obtain ⟨h3, h4, h5, h6, N, hN⟩ := fine_area hf
  have HF := Lib.hid hf
  have HN := Lib.hid hN
  clear hf hN
  go_enter Try.func4, Try.ntmps4
  go_upto_region 1 with fail
  obtain ⟨W, hW⟩ : ∃ W, W = w.alloc (.cells #[.int .i64 a, .int .i64 b, .int .i64 c, .int .i64 d] 23) := ⟨_, rfl⟩
  have bw : Below w.heap.size w W := by rw [hW]; exact bsa (Below.refl _ _)
  have k_r : W.heap[w.heap.size]? = some (.cells #[.int .i64 a, .int .i64 b, .int .i64 c, .int .i64 d] 23 (0, 0)) := by rw [hW]; exact heap_alloc_new w _
  rw [← hW]
  clear hW
  have q_r := q4c k_r
  go_wp2_with fail
  refine (fine_yes a b c d HF.out _).mono ?_
  rintro e Y1 ⟨rfl, bc⟩
  clear q_r
  replace k_r := bk bc k_r
  replace bw := bst bc bw
  clear bc
  have q_r := q4c k_r
  go_wp2_with fail
  refine (toRect4 a b c d _).mono ?_
  rintro e Y2 ⟨rfl, bc⟩
  clear q_r
  replace k_r := bk bc k_r
  replace bw := bst bc bw
  clear bc
  have q_r := q4c k_r
  go_wp2_with fail
  refine (grayNew_cap a b c d N h3 h4 h5 h6 HN.out _).mono ?_
  rintro e Y3 ⟨A1, cp1, rfl, r1, lo1, bc, hcap⟩
  clear q_r
  replace k_r := bk bc k_r
  replace bw := bst bc bw
  have hA1 : 0 < N → ∃ g off, A1 = some ⟨g, off, none⟩ := fun h => by obtain ⟨b, o, e, _⟩ := r1.2.2.2 h; exact ⟨b, o, e⟩
  have HA := Lib.hid (And.intro hcap hA1)
  clear r1 lo1 hcap hA1
  clear bc
  have q_r := q4c k_r
  go_upto_region 4 with fail
  clear q_r
  obtain ⟨Y4, g_p, eY, eg⟩ : ∃ Y g, Y = Y3.alloc (.cells #[.int .i64 a, .int .i64 b, .int .i64 c, .int .i64 d, .int .i64 (c - a), .slice A1 N cp1] 29) ∧ g = Y3.heap.size := ⟨_, _, rfl, rfl⟩
  rw [← eY, ← eg]
  have bc : Below Y3.heap.size Y3 Y4 := by rw [eY]; exact (Below.refl _ _).alloc (Nat.le_refl _) _
  have k_p : Y4.heap[g_p]? = some (.cells #[.int .i64 a, .int .i64 b, .int .i64 c, .int .i64 d, .int .i64 (c - a), .slice A1 N cp1] 29 (0, 0)) := by rw [eY, eg]; exact heap_alloc_new Y3 _
  replace k_r := bk bc k_r
  replace bw := bst bc bw
  clear bc eY eg
  refine wp_region_held_drew (S := fun w' => w'.cell? ⟨w.heap.size, 0, none⟩ = some (.int .i64 a) ∧ w'.cell? ⟨w.heap.size, 1, none⟩ = some (.int .i64 b) ∧ w'.cell? ⟨w.heap.size, 2, none⟩ = some (.int .i64 c) ∧ w'.cell? ⟨w.heap.size, 3, none⟩ = some (.int .i64 d) ∧ w'.cell? ⟨g_p, 0, none⟩ = some (.int .i64 a) ∧ w'.cell? ⟨g_p, 1, none⟩ = some (.int .i64 b) ∧ w'.cell? ⟨g_p, 2, none⟩ = some (.int .i64 c) ∧ w'.cell? ⟨g_p, 3, none⟩ = some (.int .i64 d) ∧ w'.cell? ⟨g_p, 4, none⟩ = some (.int .i64 (c - a)) ∧ w'.cell? ⟨g_p, 5, none⟩ = some (.slice A1 N cp1)) (by kernel_rfl) ⟨(q4c k_r).1.1, (q4c k_r).1.2.1, (q4c k_r).1.2.2.1, (q4c k_r).1.2.2.2, (q6c k_p).1.1, (q6c k_p).1.2.1, (q6c k_p).1.2.2.1, (q6c k_p).1.2.2.2.1, (q6c k_p).1.2.2.2.2.1, (q6c k_p).1.2.2.2.2.2⟩ ?_
  intro hHeld
  obtain ⟨X5, eX, bc⟩ : ∃ X, X = Y4.drew ∧ Below Y4.heap.size Y4 X := ⟨_, rfl, (Below.refl _ _).drew⟩
  rw [← eX] at hHeld ⊢
  replace k_r := bk bc k_r
  replace k_p := bk bc k_p
  replace bw := bst bc bw
  clear eX bc
  refine takx (i := 0) (D := 14) (v := .pointer (some ⟨g_p, 0, none⟩)) rfl rfl (by kernel_rfl) (by kernel_rfl) (by kernel_rfl) (fun _ _ _ h => h) (Or.inl ⟨by rfl, fun W hSw => by (try dsimp only at hSw); go_simp⟩) (by assumption) ?_
  (try simp only [List.setIfInBounds_toArray, List.set_cons_zero, List.set_cons_succ])
  refine takx (i := 1) (D := 15) (v := .agg #[.int .i64 a, .int .i64 b, .int .i64 c, .int .i64 d]) rfl rfl (by kernel_rfl) (by kernel_rfl) (by kernel_rfl) (fun _ _ _ h => h) (Or.inl ⟨by rfl, fun W hSw => by (try dsimp only at hSw); go_simp⟩) (by assumption) ?_
  (try simp only [List.setIfInBounds_toArray, List.set_cons_zero, List.set_cons_succ])
  refine takx (i := 2) (D := 16) (v := .agg #[.int .i64 a, .int .i64 b, .int .i64 c, .int .i64 d]) rfl rfl (by kernel_rfl) (by kernel_rfl) (by kernel_rfl) (fun _ _ _ h => h) (Or.inl ⟨by rfl, fun W hSw => by (try dsimp only at hSw); go_simp⟩) (by assumption) ?_
  (try simp only [List.setIfInBounds_toArray, List.set_cons_zero, List.set_cons_succ])
  refine wpAnyH_ready (rs := [3]) (by kernel_rfl) (by simp) ?_
  refine (AllReadyH.cons rfl (fun K hK => ?_) AllReadyH.nil)
  go_simp
  refine (toRect4 a b c d _).mono ?_
  rintro e X6 ⟨rfl, bc⟩
  refine hK.out _ _ ⟨ck bc hHeld.1, ck bc hHeld.2.1, ck bc hHeld.2.2.1, ck bc hHeld.2.2.2.1, ck bc hHeld.2.2.2.2.1, ck bc hHeld.2.2.2.2.2.1, ck bc hHeld.2.2.2.2.2.2.1, ck bc hHeld.2.2.2.2.2.2.2.1, ck bc hHeld.2.2.2.2.2.2.2.2.1, ck bc hHeld.2.2.2.2.2.2.2.2.2⟩ (fun hHeld => ?_)
  clear hK K
  (try simp only [List.setIfInBounds_toArray, List.set_cons_zero, List.set_cons_succ])
  replace k_r := bk bc k_r
  replace k_p := bk bc k_p
  replace bw := bst bc bw
  clear bc
  refine takx (i := 4) (D := 18) (v := .bool false) rfl rfl (by kernel_rfl) (by kernel_rfl) (by kernel_rfl) (fun _ _ _ h => h) (Or.inl ⟨by rfl, fun W hSw => by (try dsimp only at hSw); go_simp⟩) (by assumption) ?_
  (try simp only [List.setIfInBounds_toArray, List.set_cons_zero, List.set_cons_succ])
  refine wpAnyH_done (by kernel_rfl) ?_ _
  clear hHeld
  have HX := Lib.hid (show _ from And.intro k_r k_p)
  have BX := Lib.hid bw
  have q_r := q4c k_r
  clear k_r k_p bw
  go_wp2_with fail
  clear q_r
  go_loopw [4] (fun v wr => ∃ k : Nat, (k : Int) ≤ d - b ∧ v = .int .i64 (b + k) ∧ Hid (wr.heap[w.heap.size]? = some (.cells #[.int .i64 a, .int .i64 b, .int .i64 c, .int .i64 d] 23 (0, 0))) ∧ Hid (wr.heap[g_p]? = some (.cells #[.int .i64 a, .int .i64 b, .int .i64 c, .int .i64 d, .int .i64 (c - a), .slice A1 N cp1] 29 (0, 0))) ∧ Hid (Below w.heap.size w wr)) (fun v _ => (d - intOf v).toNat)
  case atStart => exact ⟨0, by omega, by simp, HX.out.1, HX.out.2, BX⟩
  case round =>
    obtain ⟨k, hk, rfl, KR, KP, BW⟩ := hrel
    have q_r := q4c KR.out
    by_cases hlt : b + (k : Int) < d
    · have ey : IntKind.i64.wrap (b + (k : Int) + 1) = b + (k : Int) + 1 := IntWalk.i64_in _ ⟨by unfold I64 at hb; omega, by unfold I64 at hd; omega⟩
      have ey' : IntKind.i64.wrap (b + ((k : Int) + 1)) = b + (k : Int) + 1 := by rw [← Int.add_assoc]; exact ey
      go_wp2_with fail
      obtain ⟨wo, rfl⟩ : ∃ wo : World, wo = wr := ⟨_, rfl⟩
      go_loopw [5] (fun v wr => ∃ j : Nat, (j : Int) ≤ c - a ∧ v = .int .i64 (a + j) ∧ Hid (wr.heap[w.heap.size]? = some (.cells #[.int .i64 a, .int .i64 b, .int .i64 c, .int .i64 d] 23 (0, 0))) ∧ Hid (wr.heap[g_p]? = some (.cells #[.int .i64 a, .int .i64 b, .int .i64 c, .int .i64 d, .int .i64 (c - a), .slice A1 N cp1] 29 (0, 0))) ∧ Hid (Below w.heap.size w wr)) (fun v _ => (c - intOf v).toNat)
      case atStart => exact ⟨0, by omega, by simp, KR, KP, BW⟩
      case round =>
        obtain ⟨j, hj, rfl, KR1, KP1, BW1⟩ := hrel
        clear q_r
        have q_r := q4c KR1.out
        by_cases hlx : a + (j : Int) < c
        · have ex : IntKind.i64.wrap (a + (j : Int) + 1) = a + (j : Int) + 1 := IntWalk.i64_in _ ⟨by unfold I64 at ha; omega, by unfold I64 at hc; omega⟩
          have hin : In a b c d (a + j) (b + k) := ⟨by omega, by omega, by omega, by omega⟩
          obtain ⟨o, ho, hoN⟩ := place_lt HN.out hin
          have HO := Lib.hid (And.intro ho hoN)
          clear ho hin
          have kN := area_le h3 h4 h5 h6 HN.out
          have q_p := q6c KP1.out
          go_wp2_with fail
          refine (at_in a b c d (c - a) 1 (a + j) (b + k) o N cp1 1 A1 (by omega) (by omega) (by omega) (by omega) (by omega) (by omega) rfl (by decide) (by decide) (by rw [Int.mul_one]; exact HO.out.1) (by omega) (by omega) HA.out.1 (HA.out.2 (by omega)) _).mono ?_
          rintro e w2 ⟨v, rfl, bc⟩
          have KR2 := Lib.hid (bk bc KR1.out)
          have KP2 := Lib.hid (bk bc KP1.out)
          have BW2 := Lib.hid (bst bc BW1.out)
          clear bc q_r q_p
          go_wp2
          go_roundw
          case rel => exact ⟨j + 1, by omega, by simp [Int.add_assoc], KR2, KP2, BW2⟩
          case measure => simp [intOf]; omega
        · go_wp2
          go_roundw
          case rel => exact ⟨k + 1, by omega, by simp [Int.add_assoc], KR1, KP1, BW1⟩
          case measure => simp [intOf]; omega
    · go_wp2
      go_ret
      first | exact ⟨rfl, BW.out⟩ | exact ⟨trivial, BW.out⟩

end Go.Proofs.Ytpijljokcoocpaa

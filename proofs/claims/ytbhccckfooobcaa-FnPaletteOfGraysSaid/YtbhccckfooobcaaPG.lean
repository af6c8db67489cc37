/-
  The walk of the law FnPaletteOfGrays. No condition.
-/
import Derived.Test.YtbhccckfooobcaaP9
namespace Go.Proofs.Ytbhccckfooobcaa
open Go.ChangeShapes Go.WideShapes Go.ChangeAt Go.RowKit
set_option linter.unusedVariables false
set_option linter.unusedSimpArgs false

/-- A gray as a color. -/
def gray (k : Nat) : Q4 := ⟨k, k, k, 255⟩
def grays (n : Nat) : List Q4 := (List.range n).map gray
theorem grays_length (n : Nat) : (grays n).length = n := by simp [grays]
theorem grays_succ (n : Nat) : grays (n + 1) = grays n ++ [gray n] := by simp [grays, List.range_succ]
theorem grays_get (n i : Nat) (h : i < n) : (grays n).getD i default = gray i := by simp [grays, List.getD, h]
theorem grays_opq : Opq (grays 256) := by
  intro q hq
  obtain ⟨k, _, rfl⟩ := List.mem_map.1 hq
  rfl
theorem grays_ok (n : Nat) (hn : n ≤ 256) : ∀ q ∈ grays n, q.ok := by
  intro q hq
  obtain ⟨k, hk, rfl⟩ := List.mem_map.1 hq
  have := List.mem_range.1 hk
  refine ⟨?_, ?_, ?_, ?_⟩ <;> (unfold I64 gray; dsimp only; omega)
theorem gray_dist (c : Q4) (k : Nat) (hk : k < 256) : dist (gray k) c = 3 * ((k : Int) * k) - 2 * ((k : Int) * (c.a % 256 + c.b % 256 + c.c % 256)) + (c.a % 256 * (c.a % 256) + c.b % 256 * (c.b % 256) + c.c % 256 * (c.c % 256)) := by
  unfold dist gray
  dsimp only
  have e : (k : Int) % 256 = k := by omega
  rw [e]
  generalize c.a % 256 = x
  generalize c.b % 256 = y
  generalize c.c % 256 = z
  generalize (k : Int) = t
  simp only [Int.sub_mul, Int.mul_sub, Int.mul_add]
  rw [Int.mul_comm x t, Int.mul_comm y t, Int.mul_comm z t]
  omega
/-- Of the grays the nearest one is the mean, rounded. -/
theorem near_gray {c : Q4} {i : Nat} (h : Near c (grays 256) i) : (i : Int) = (2 * (c.a % 256 + c.b % 256 + c.c % 256) + 3) / 6 := by
  have hi : i < 256 := by have := h.lt (by rw [grays_length]; omega); rwa [grays_length] at this
  have b1 : 0 ≤ c.a % 256 ∧ c.a % 256 ≤ 255 := by omega
  have b2 : 0 ≤ c.b % 256 ∧ c.b % 256 ≤ 255 := by omega
  have b3 : 0 ≤ c.c % 256 ∧ c.c % 256 ≤ 255 := by omega
  rcases h with ⟨h, _⟩ | ⟨_, h2, _⟩
  · have := grays_length 256; rw [h] at this; simp at this
  · obtain ⟨m, hm⟩ : ∃ m : Nat, (m : Int) = (2 * (c.a % 256 + c.b % 256 + c.c % 256) + 3) / 6 := ⟨((2 * (c.a % 256 + c.b % 256 + c.c % 256) + 3) / 6).toNat, by omega⟩
    have hm6 : m < 256 := by omega
    have := h2 m (by rw [grays_length]; exact hm6)
    rw [grays_get _ _ hi, grays_get _ _ hm6, gray_dist c i hi, gray_dist c m hm6] at this
    generalize c.a % 256 + c.b % 256 + c.c % 256 = S at *
    rw [← hm]
    have p1 : 6 * (m : Int) ≤ 2 * S + 3 := by omega
    have p2 : 2 * S + 3 < 6 * (m : Int) + 6 := by omega
    rcases Nat.lt_trichotomy i m with hlt | heq | hgt
    · exfalso
      obtain ⟨j, rfl⟩ : ∃ j, m = i + 1 + j := ⟨m - i - 1, by omega⟩
      have q1 : ((i + 1 + j : Nat) : Int) = (i : Int) + (1 + j) := by omega
      rw [q1] at this p1 p2
      generalize (i : Int) = t at *
      have hj : (0 : Int) ≤ j := by omega
      generalize (j : Int) = u at *
      have e : 3 * ((t + (1 + u)) * (t + (1 + u))) - 2 * ((t + (1 + u)) * S) - (3 * (t * t) - 2 * (t * S)) = (1 + u) * (6 * t + 3 * (1 + u) - 2 * S) := by
        simp only [Int.add_mul, Int.mul_add, Int.mul_sub, Int.one_mul, Int.mul_one]
        rw [Int.mul_comm u t, show u * (6 * t) = 6 * (t * u) by rw [Int.mul_left_comm, Int.mul_comm u t], show u * (3 * u) = 3 * (u * u) by rw [Int.mul_left_comm], show u * (2 * S) = 2 * (u * S) by rw [Int.mul_left_comm]]
        omega
      have neg : (1 + u) * (6 * t + 3 * (1 + u) - 2 * S) < 0 := by
        have f : 6 * t + 3 * (1 + u) - 2 * S ≤ -1 := by omega
        have := Int.mul_le_mul_of_nonneg_left f (show 0 ≤ 1 + u by omega)
        omega
      omega
    · exact congrArg _ heq
    · exfalso
      obtain ⟨j, rfl⟩ : ∃ j, i = m + 1 + j := ⟨i - m - 1, by omega⟩
      have q1 : ((m + 1 + j : Nat) : Int) = (m : Int) + (1 + j) := by omega
      rw [q1] at this
      generalize (m : Int) = t at *
      have hj : (0 : Int) ≤ j := by omega
      generalize (j : Int) = u at *
      have e : 3 * ((t + (1 + u)) * (t + (1 + u))) - 2 * ((t + (1 + u)) * S) - (3 * (t * t) - 2 * (t * S)) = (1 + u) * (6 * t + 3 * (1 + u) - 2 * S) := by
        simp only [Int.add_mul, Int.mul_add, Int.mul_sub, Int.one_mul, Int.mul_one]
        rw [Int.mul_comm u t, show u * (6 * t) = 6 * (t * u) by rw [Int.mul_left_comm, Int.mul_comm u t], show u * (3 * u) = 3 * (u * u) by rw [Int.mul_left_comm], show u * (2 * S) = 2 * (u * S) by rw [Int.mul_left_comm]]
        omega
      have pos : 0 < (1 + u) * (6 * t + 3 * (1 + u) - 2 * S) := Int.mul_pos (by omega) (by omega)
      omega

theorem low_b (c : Int) (hc : I64 c) (w : World) :
    Calls Try.prog 11 #[.int .i64 c] w fun e w' => e = .returned (.int .i64 (c % 256)) ∧ Below w.heap.size w w' :=
  (low_any c hc w).mono fun _ _ ⟨h, k⟩ => ⟨h, k ▸ Below.refl _ _⟩

set_option maxRecDepth 100000 in
set_option maxHeartbeats 4000000 in
theorem fnPaletteOfGrays_walk (w : World) (q : Q4) (hq : q.ok) :
    Calls Try.prog 3 #[q.val] w fun e w' => e = .returned (.bool true) ∧ Below w.heap.size w w' := by
  have HQ := Lib.hid hq
  have hqd : I64 q.d := hq.2.2.2
  clear hq
  show Calls Try.prog 3 #[.agg #[.int .i64 q.a, .int .i64 q.b, .int .i64 q.c, .int .i64 q.d]] w _
  obtain ⟨i0, hi, hz0, hz1, hz2⟩ := info_parts (show (Try.prog.info? 25).map (fun i => (i.zero, i.size, i.bytes)) = some (some (.agg #[.int .i64 0, .int .i64 0, .int .i64 0, .int .i64 0]), 4, 32) from by kernel_rfl)
  go_enter Try.func3, Try.ntmps3
  go_wp2_with fail
  go_loopw [4, 3] (fun i v wr => ∃ (k : Nat), k ≤ 256 ∧ i = .int .i64 k ∧ Hid (wr.ownsRow (w.heap.size + 1) 25 4 v k (flat (grays k))) ∧ Hid (Below w.heap.size w wr) ∧ Hid (wr.heap[w.heap.size]? = some (.cells #[.int .i64 q.a, .int .i64 q.b, .int .i64 q.c, .int .i64 q.d] 23 (0, 0))) ∧ w.heap.size + 1 ≤ wr.heap.size) (fun i _ _ => 256 - (intOf i).toNat)
  case atStart => exact ⟨0, by omega, rfl, World.ownsRow_nil _ _ _ _, bsa (Below.refl _ _), heap_alloc_new w _, by simp⟩
  case round =>
    obtain ⟨k, hk, rfl, HO, HB, HC, hlo⟩ := hrel
    obtain ⟨A, cp, rfl⟩ := own_slice HO.out
    by_cases hlt : k < 256
    · have hown := HO.out
      have hkI : (k : Int) < 256 := by omega
      go_wp2_with (first
        | (at_builtin; refine wpList_append_own _ rfl _ _ 24 rfl (w.heap.size + 1) 25 i0 (.agg #[.int .i64 0, .int .i64 0, .int .i64 0, .int .i64 0]) 4 32 Try.underlying24 hi hz0 hz1 hz2 rfl (by decide) _ _ _ rfl (hown.alloc _) ⟨wr.heap.size, 0, none⟩ 1 1 [.int .i64 k, .int .i64 k, .int .i64 k, .int .i64 255] rfl rfl ?c1 ?c2 ?c3 ?c4 ?c5 ?_))
      case c1 => exact four_cells _ _ _ _ _ _
      case c2 => intro u hu; simp at hu; rcases hu with rfl | rfl <;> rfl
      case c3 => unfold maxLen; omega
      case c4 => omega
      case c5 => simp; omega
      intro v' w2 hown' hgrow _
      have B2 := Lib.hid ((bsa HB.out).grown hgrow (by have := HB.out.size; simp; omega) (by intro j hj; have := (hown.lt j hj).1; omega))
      have C2 : Hid (w2.heap[w.heap.size]? = some (.cells #[.int .i64 q.a, .int .i64 q.b, .int .i64 q.c, .int .i64 q.d] 23 (0, 0))) := (hgrow.block _ (by simp; omega) (by intro e; have := (hown.lt _ e.symm).1; omega)).trans (bka HC.out)
      have OW := Lib.hid hown'
      have hsz := hgrow.size
      simp at hsz
      clear hown' hgrow hown
      go_wp2
      go_roundw
      case rel => exact ⟨k + 1, by omega, by go_num, by rw [grays_succ, flat_append]; exact OW, B2, C2, by omega⟩
      case measure => simp [intOf]; omega
    · obtain rfl : k = 256 := by omega
      obtain ⟨A2, c2, e2, rg0, _⟩ := RdQuads.of_own HO.out (by omega) (grays_ok 256 (by omega))
      simp only [Value.slice.injEq, true_and] at e2
      obtain ⟨rfl, rfl⟩ := e2
      have bw := HB.out
      have k_c := HC.out
      have rg := rg0
      clear rg0 HO HB HC
      obtain ⟨W, eW⟩ : ∃ W, W = wr := ⟨_, rfl⟩
      rw [← eW] at bw k_c rg ⊢
      clear eW
      by_cases h255 : q.d % 256 = 255
      · have h5 : (q.d % 256 != 255) = false := by simp [h255]
        have H5 := Lib.hid h255
        clear h255
        obtain ⟨⟨_, _, _, qd⟩, _⟩ := q4c k_c
        go_wp2_with fail
        refine (low_any q.d hqd _).mono ?_
        rintro e _ ⟨rfl, rfl⟩
        clear qd
        have m1 : 0 ≤ q.a % 256 ∧ q.a % 256 ≤ 255 := by omega
        have m2 : 0 ≤ q.b % 256 ∧ q.b % 256 ≤ 255 := by omega
        have m3 : 0 ≤ q.c % 256 ∧ q.c % 256 ≤ 255 := by omega
        have s1 : IntKind.i64.wrap (q.a % 256 + q.b % 256) = q.a % 256 + q.b % 256 := IntWalk.i64_in _ ⟨by omega, by omega⟩
        have s2 : IntKind.i64.wrap (q.a % 256 + q.b % 256 + q.c % 256) = q.a % 256 + q.b % 256 + q.c % 256 := IntWalk.i64_in _ ⟨by omega, by omega⟩
        go_upto_region 8 with fail
        refine wp_region_held_drew (S := fun w' => w'.cell? ⟨w.heap.size, 0, none⟩ = some (.int .i64 q.a) ∧ w'.cell? ⟨w.heap.size, 1, none⟩ = some (.int .i64 q.b) ∧ w'.cell? ⟨w.heap.size, 2, none⟩ = some (.int .i64 q.c) ∧ w'.cell? ⟨w.heap.size, 3, none⟩ = some (.int .i64 q.d)) (by kernel_rfl) ⟨(q4c k_c).1.1, (q4c k_c).1.2.1, (q4c k_c).1.2.2.1, (q4c k_c).1.2.2.2⟩ ?_
        intro hHeld
        obtain ⟨X0, eX, bc⟩ : ∃ X, X = W.drew ∧ Below W.heap.size W X := ⟨_, rfl, (Below.refl _ _).drew⟩
        rw [← eX] at hHeld ⊢
        replace k_c := bk bc k_c
        replace bw := bs bc bw
        (try replace rg := (rg.below bc).more bc.size)
        clear eX bc
        refine takx (i := 0) (D := 38) (v := .pointer (some ⟨w.heap.size, 0, none⟩)) rfl rfl (by kernel_rfl) (by kernel_rfl) (by kernel_rfl) (fun _ _ _ h => h) (Or.inl ⟨by rfl, fun W hSw => by (try dsimp only at hSw); go_simp⟩) (by assumption) ?_
        (try simp only [List.setIfInBounds_toArray, List.set_cons_zero, List.set_cons_succ])
        refine takx (i := 1) (D := 39) (v := .int .i64 q.a) rfl rfl (by kernel_rfl) (by kernel_rfl) (by kernel_rfl) (fun _ _ _ h => h) (Or.inl ⟨by rfl, fun W hSw => by (try dsimp only at hSw); go_simp⟩) (by assumption) ?_
        (try simp only [List.setIfInBounds_toArray, List.set_cons_zero, List.set_cons_succ])
        refine takx (i := 3) (D := 41) (v := .pointer (some ⟨w.heap.size, 1, none⟩)) rfl rfl (by kernel_rfl) (by kernel_rfl) (by kernel_rfl) (fun _ _ _ h => h) (Or.inl ⟨by rfl, fun W hSw => by (try dsimp only at hSw); go_simp⟩) (by assumption) ?_
        (try simp only [List.setIfInBounds_toArray, List.set_cons_zero, List.set_cons_succ])
        refine takx (i := 4) (D := 42) (v := .int .i64 q.b) rfl rfl (by kernel_rfl) (by kernel_rfl) (by kernel_rfl) (fun _ _ _ h => h) (Or.inl ⟨by rfl, fun W hSw => by (try dsimp only at hSw); go_simp⟩) (by assumption) ?_
        (try simp only [List.setIfInBounds_toArray, List.set_cons_zero, List.set_cons_succ])
        refine takx (i := 7) (D := 45) (v := .pointer (some ⟨w.heap.size, 2, none⟩)) rfl rfl (by kernel_rfl) (by kernel_rfl) (by kernel_rfl) (fun _ _ _ h => h) (Or.inl ⟨by rfl, fun W hSw => by (try dsimp only at hSw); go_simp⟩) (by assumption) ?_
        (try simp only [List.setIfInBounds_toArray, List.set_cons_zero, List.set_cons_succ])
        refine takx (i := 8) (D := 46) (v := .int .i64 q.c) rfl rfl (by kernel_rfl) (by kernel_rfl) (by kernel_rfl) (fun _ _ _ h => h) (Or.inl ⟨by rfl, fun W hSw => by (try dsimp only at hSw); go_simp⟩) (by assumption) ?_
        (try simp only [List.setIfInBounds_toArray, List.set_cons_zero, List.set_cons_succ])
        refine wpAnyH_ready (rs := [2]) (by kernel_rfl) (by simp) ?_
        refine (AllReadyH.cons rfl (fun K hK => ?_) AllReadyH.nil)
        go_simp
        refine (low_b q.a HQ.out.1 _).mono ?_
        rintro e X1 ⟨rfl, bc⟩
        refine hK.out _ _ ⟨ck bc hHeld.1, ck bc hHeld.2.1, ck bc hHeld.2.2.1, ck bc hHeld.2.2.2⟩ (fun hHeld => ?_)
        clear hK K
        (try simp only [List.setIfInBounds_toArray, List.set_cons_zero, List.set_cons_succ])
        replace k_c := bk bc k_c
        replace bw := bs bc bw
        (try replace rg := (rg.below bc).more bc.size)
        clear bc
        refine wpAnyH_ready (rs := [5]) (by kernel_rfl) (by simp) ?_
        refine (AllReadyH.cons rfl (fun K hK => ?_) AllReadyH.nil)
        go_simp
        refine (low_b q.b HQ.out.2.1 _).mono ?_
        rintro e X2 ⟨rfl, bc⟩
        refine hK.out _ _ ⟨ck bc hHeld.1, ck bc hHeld.2.1, ck bc hHeld.2.2.1, ck bc hHeld.2.2.2⟩ (fun hHeld => ?_)
        clear hK K
        (try simp only [List.setIfInBounds_toArray, List.set_cons_zero, List.set_cons_succ])
        replace k_c := bk bc k_c
        replace bw := bs bc bw
        (try replace rg := (rg.below bc).more bc.size)
        clear bc
        refine takx (i := 6) (D := 44) (v := .int .i64 (q.a % 256 + q.b % 256)) rfl rfl (by kernel_rfl) (by kernel_rfl) (by kernel_rfl) (fun _ _ _ h => h) (Or.inl ⟨by rfl, fun W hSw => by (try dsimp only at hSw); go_simp⟩) (by assumption) ?_
        (try simp only [List.setIfInBounds_toArray, List.set_cons_zero, List.set_cons_succ])
        refine wpAnyH_ready (rs := [9]) (by kernel_rfl) (by simp) ?_
        refine (AllReadyH.cons rfl (fun K hK => ?_) AllReadyH.nil)
        go_simp
        refine (low_b q.c HQ.out.2.2.1 _).mono ?_
        rintro e X3 ⟨rfl, bc⟩
        refine hK.out _ _ ⟨ck bc hHeld.1, ck bc hHeld.2.1, ck bc hHeld.2.2.1, ck bc hHeld.2.2.2⟩ (fun hHeld => ?_)
        clear hK K
        (try simp only [List.setIfInBounds_toArray, List.set_cons_zero, List.set_cons_succ])
        replace k_c := bk bc k_c
        replace bw := bs bc bw
        (try replace rg := (rg.below bc).more bc.size)
        clear bc
        refine takx (i := 10) (D := 48) (v := .int .i64 (q.a % 256 + q.b % 256 + q.c % 256)) rfl rfl (by kernel_rfl) (by kernel_rfl) (by kernel_rfl) (fun _ _ _ h => h) (Or.inl ⟨by rfl, fun W hSw => by (try dsimp only at hSw); go_simp⟩) (by assumption) ?_
        (try simp only [List.setIfInBounds_toArray, List.set_cons_zero, List.set_cons_succ])
        refine takx (i := 11) (D := 5) (v := .int .i64 (q.a % 256 + q.b % 256 + q.c % 256)) rfl rfl (by kernel_rfl) (by kernel_rfl) (by kernel_rfl) (fun _ _ _ h => h) (Or.inl ⟨by rfl, fun W hSw => by (try dsimp only at hSw); go_simp⟩) (by assumption) ?_
        (try simp only [List.setIfInBounds_toArray, List.set_cons_zero, List.set_cons_succ])
        refine wpAnyH_done (by kernel_rfl) ?_ _
        clear hHeld s1 s2
        obtain ⟨⟨qa, qb, qc, qd⟩, _⟩ := q4c k_c
        go_wp2_with fail
        refine (toColor4 q.a q.b q.c q.d _).mono ?_
        rintro e Y1 ⟨rfl, bc⟩
        have bw1 := bs bc bw
        have rg1 := (rg.below bc).more bc.size
        clear bc qa qb qc qd
        go_wp2_with fail
        refine (palIndex4 256 cp A (grays 256) q.a q.b q.c q.d _ rg1).mono ?_
        rintro e Y2 ⟨i, rfl, hf, bc⟩
        have bw2 := bs bc bw1
        have hii := near_gray (near_of_first (c := q) H5.out grays_opq hf)
        have hbb : ((i : Int) == (2 * (q.a % 256 + q.b % 256 + q.c % 256) + 3) / 6) = true := by simpa using hii
        clear hf hii bc
        go_wp2
        go_ret
        exact ⟨rfl, bw2⟩
      · have h5 : (q.d % 256 != 255) = true := by simp [h255]
        clear h255
        obtain ⟨⟨_, _, _, qd⟩, _⟩ := q4c k_c
        go_wp2_with fail
        refine (low_any q.d hqd _).mono ?_
        rintro e _ ⟨rfl, rfl⟩
        clear qd
        have hbb : ((q.a % 256) == (q.a % 256)) = true := by simp
        go_upto_region 7 with fail
        refine wp_region_held_drew (S := fun w' => w'.cell? ⟨w.heap.size, 0, none⟩ = some (.int .i64 q.a) ∧ w'.cell? ⟨w.heap.size, 1, none⟩ = some (.int .i64 q.b) ∧ w'.cell? ⟨w.heap.size, 2, none⟩ = some (.int .i64 q.c) ∧ w'.cell? ⟨w.heap.size, 3, none⟩ = some (.int .i64 q.d)) (by kernel_rfl) ⟨(q4c k_c).1.1, (q4c k_c).1.2.1, (q4c k_c).1.2.2.1, (q4c k_c).1.2.2.2⟩ ?_
        intro hHeld
        obtain ⟨X0, eX, bc⟩ : ∃ X, X = W.drew ∧ Below W.heap.size W X := ⟨_, rfl, (Below.refl _ _).drew⟩
        rw [← eX] at hHeld ⊢
        replace k_c := bk bc k_c
        replace bw := bs bc bw
        (try replace rg := (rg.below bc).more bc.size)
        clear eX bc
        refine takx (i := 0) (D := 22) (v := .slice A 256 cp) rfl rfl (by kernel_rfl) (by kernel_rfl) (by kernel_rfl) (fun _ _ _ h => h) (Or.inl ⟨by rfl, fun W hSw => by (try dsimp only at hSw); go_simp⟩) (by assumption) ?_
        (try simp only [List.setIfInBounds_toArray, List.set_cons_zero, List.set_cons_succ])
        refine takx (i := 1) (D := 23) (v := .pointer (some ⟨w.heap.size, 0, none⟩)) rfl rfl (by kernel_rfl) (by kernel_rfl) (by kernel_rfl) (fun _ _ _ h => h) (Or.inl ⟨by rfl, fun W hSw => by (try dsimp only at hSw); go_simp⟩) (by assumption) ?_
        (try simp only [List.setIfInBounds_toArray, List.set_cons_zero, List.set_cons_succ])
        refine takx (i := 2) (D := 24) (v := .int .i64 q.a) rfl rfl (by kernel_rfl) (by kernel_rfl) (by kernel_rfl) (fun _ _ _ h => h) (Or.inl ⟨by rfl, fun W hSw => by (try dsimp only at hSw); go_simp⟩) (by assumption) ?_
        (try simp only [List.setIfInBounds_toArray, List.set_cons_zero, List.set_cons_succ])
        refine takx (i := 4) (D := 26) (v := .pointer (some ⟨w.heap.size, 0, none⟩)) rfl rfl (by kernel_rfl) (by kernel_rfl) (by kernel_rfl) (fun _ _ _ h => h) (Or.inl ⟨by rfl, fun W hSw => by (try dsimp only at hSw); go_simp⟩) (by assumption) ?_
        (try simp only [List.setIfInBounds_toArray, List.set_cons_zero, List.set_cons_succ])
        refine takx (i := 5) (D := 27) (v := .int .i64 q.a) rfl rfl (by kernel_rfl) (by kernel_rfl) (by kernel_rfl) (fun _ _ _ h => h) (Or.inl ⟨by rfl, fun W hSw => by (try dsimp only at hSw); go_simp⟩) (by assumption) ?_
        (try simp only [List.setIfInBounds_toArray, List.set_cons_zero, List.set_cons_succ])
        refine takx (i := 7) (D := 29) (v := .pointer (some ⟨w.heap.size, 0, none⟩)) rfl rfl (by kernel_rfl) (by kernel_rfl) (by kernel_rfl) (fun _ _ _ h => h) (Or.inl ⟨by rfl, fun W hSw => by (try dsimp only at hSw); go_simp⟩) (by assumption) ?_
        (try simp only [List.setIfInBounds_toArray, List.set_cons_zero, List.set_cons_succ])
        refine takx (i := 8) (D := 30) (v := .int .i64 q.a) rfl rfl (by kernel_rfl) (by kernel_rfl) (by kernel_rfl) (fun _ _ _ h => h) (Or.inl ⟨by rfl, fun W hSw => by (try dsimp only at hSw); go_simp⟩) (by assumption) ?_
        (try simp only [List.setIfInBounds_toArray, List.set_cons_zero, List.set_cons_succ])
        refine takx (i := 12) (D := 34) (v := .pointer (some ⟨w.heap.size, 0, none⟩)) rfl rfl (by kernel_rfl) (by kernel_rfl) (by kernel_rfl) (fun _ _ _ h => h) (Or.inl ⟨by rfl, fun W hSw => by (try dsimp only at hSw); go_simp⟩) (by assumption) ?_
        (try simp only [List.setIfInBounds_toArray, List.set_cons_zero, List.set_cons_succ])
        refine takx (i := 13) (D := 35) (v := .int .i64 q.a) rfl rfl (by kernel_rfl) (by kernel_rfl) (by kernel_rfl) (fun _ _ _ h => h) (Or.inl ⟨by rfl, fun W hSw => by (try dsimp only at hSw); go_simp⟩) (by assumption) ?_
        (try simp only [List.setIfInBounds_toArray, List.set_cons_zero, List.set_cons_succ])
        refine wpAnyH_ready (rs := [3]) (by kernel_rfl) (by simp) ?_
        refine (AllReadyH.cons rfl (fun K hK => ?_) AllReadyH.nil)
        go_simp
        refine (low_b q.a HQ.out.1 _).mono ?_
        rintro e X1 ⟨rfl, bc⟩
        refine hK.out _ _ ⟨ck bc hHeld.1, ck bc hHeld.2.1, ck bc hHeld.2.2.1, ck bc hHeld.2.2.2⟩ (fun hHeld => ?_)
        clear hK K
        (try simp only [List.setIfInBounds_toArray, List.set_cons_zero, List.set_cons_succ])
        replace k_c := bk bc k_c
        replace bw := bs bc bw
        (try replace rg := (rg.below bc).more bc.size)
        clear bc
        refine wpAnyH_ready (rs := [6]) (by kernel_rfl) (by simp) ?_
        refine (AllReadyH.cons rfl (fun K hK => ?_) AllReadyH.nil)
        go_simp
        refine (low_b q.a HQ.out.1 _).mono ?_
        rintro e X2 ⟨rfl, bc⟩
        refine hK.out _ _ ⟨ck bc hHeld.1, ck bc hHeld.2.1, ck bc hHeld.2.2.1, ck bc hHeld.2.2.2⟩ (fun hHeld => ?_)
        clear hK K
        (try simp only [List.setIfInBounds_toArray, List.set_cons_zero, List.set_cons_succ])
        replace k_c := bk bc k_c
        replace bw := bs bc bw
        (try replace rg := (rg.below bc).more bc.size)
        clear bc
        refine wpAnyH_ready (rs := [9]) (by kernel_rfl) (by simp) ?_
        refine (AllReadyH.cons rfl (fun K hK => ?_) AllReadyH.nil)
        go_simp
        refine (low_b q.a HQ.out.1 _).mono ?_
        rintro e X3 ⟨rfl, bc⟩
        refine hK.out _ _ ⟨ck bc hHeld.1, ck bc hHeld.2.1, ck bc hHeld.2.2.1, ck bc hHeld.2.2.2⟩ (fun hHeld => ?_)
        clear hK K
        (try simp only [List.setIfInBounds_toArray, List.set_cons_zero, List.set_cons_succ])
        replace k_c := bk bc k_c
        replace bw := bs bc bw
        (try replace rg := (rg.below bc).more bc.size)
        clear bc
        refine takx (i := 10) (D := 32) (v := .agg #[.int .i64 (q.a % 256), .int .i64 (q.a % 256), .int .i64 (q.a % 256), .int .i64 255]) rfl rfl (by kernel_rfl) (by kernel_rfl) (by kernel_rfl) (fun _ _ _ h => h) (Or.inl ⟨by rfl, fun W hSw => by (try dsimp only at hSw); go_simp⟩) (by assumption) ?_
        (try simp only [List.setIfInBounds_toArray, List.set_cons_zero, List.set_cons_succ])
        refine wpAnyH_ready (rs := [11]) (by kernel_rfl) (by simp) ?_
        refine (AllReadyH.cons rfl (fun K hK => ?_) AllReadyH.nil)
        go_simp
        refine (palIndex4 256 cp A (grays 256) (q.a % 256) (q.a % 256) (q.a % 256) 255 _ rg).mono ?_
        rintro e X4 ⟨i, rfl, hf0, bc⟩
        have hii : (i : Int) = q.a % 256 := by
          have := near_gray (near_of_first (c := ⟨q.a % 256, q.a % 256, q.a % 256, 255⟩) rfl grays_opq hf0)
          dsimp only at this
          rw [Int.emod_emod_of_dvd _ (Int.dvd_refl _)] at this
          omega
        rw [hii]
        clear hii
        refine hK.out _ _ ⟨ck bc hHeld.1, ck bc hHeld.2.1, ck bc hHeld.2.2.1, ck bc hHeld.2.2.2⟩ (fun hHeld => ?_)
        clear hK K
        (try simp only [List.setIfInBounds_toArray, List.set_cons_zero, List.set_cons_succ])
        replace k_c := bk bc k_c
        replace bw := bs bc bw
        (try replace rg := (rg.below bc).more bc.size)
        clear hf0
        clear bc
        refine wpAnyH_ready (rs := [14]) (by kernel_rfl) (by simp) ?_
        refine (AllReadyH.cons rfl (fun K hK => ?_) AllReadyH.nil)
        go_simp
        refine (low_b q.a HQ.out.1 _).mono ?_
        rintro e X5 ⟨rfl, bc⟩
        refine hK.out _ _ ⟨ck bc hHeld.1, ck bc hHeld.2.1, ck bc hHeld.2.2.1, ck bc hHeld.2.2.2⟩ (fun hHeld => ?_)
        clear hK K
        (try simp only [List.setIfInBounds_toArray, List.set_cons_zero, List.set_cons_succ])
        replace k_c := bk bc k_c
        replace bw := bs bc bw
        (try replace rg := (rg.below bc).more bc.size)
        clear bc
        refine takx (i := 15) (D := 37) (v := .bool true) rfl rfl (by kernel_rfl) (by kernel_rfl) (by kernel_rfl) (fun _ _ _ h => h) (Or.inl ⟨by rfl, fun W hSw => by (try dsimp only at hSw); go_simp⟩) (by assumption) ?_
        (try simp only [List.setIfInBounds_toArray, List.set_cons_zero, List.set_cons_succ])
        refine takx (i := 16) (D := 2) (v := .bool true) rfl rfl (by kernel_rfl) (by kernel_rfl) (by kernel_rfl) (fun _ _ _ h => h) (Or.inl ⟨by rfl, fun W hSw => by (try dsimp only at hSw); go_simp⟩) (by assumption) ?_
        (try simp only [List.setIfInBounds_toArray, List.set_cons_zero, List.set_cons_succ])
        refine wpAnyH_done (by kernel_rfl) ?_ _
        go_wp2_with fail
        go_ret
        exact ⟨rfl, bw⟩

end Go.Proofs.Ytbhccckfooobcaa

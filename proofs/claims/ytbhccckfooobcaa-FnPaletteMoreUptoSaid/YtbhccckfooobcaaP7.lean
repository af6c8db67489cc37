/-
  Contracts: the reference's nearest color of a palette. No condition.
-/
import Derived.Test.YtbhccckfooobcaaP5
import Derived.Test.YtbhccckfooobcaaP6
namespace Go.Proofs.Ytbhccckfooobcaa
open Go.ChangeShapes Go.WideShapes Go.ChangeAt Go.RowKit
set_option linter.unusedVariables false
set_option linter.unusedSimpArgs false

/-- Of the first k the first nearest one, while they are gone through. -/
def BestN (c : Q4) (qs : List Q4) (k m : Nat) : Prop := (k = 0 ∧ m = 0) ∨ (m < k ∧ (∀ j, j < k → dist (qs.getD m default) c ≤ dist (qs.getD j default) c) ∧ ∀ j, j < m → dist (qs.getD m default) c < dist (qs.getD j default) c)
theorem BestN.less {c : Q4} {qs : List Q4} {k m : Nat} (h : BestN c qs k m) (hlt : dist (qs.getD k default) c < dist (qs.getD m default) c) : BestN c qs (k + 1) k := by
  rcases h with ⟨rfl, rfl⟩ | ⟨h1, h2, h3⟩
  · omega
  · refine Or.inr ⟨by omega, fun j hj => ?_, fun j hj => ?_⟩
    · rcases Nat.lt_succ_iff_lt_or_eq.1 hj with h4 | rfl
      · have := h2 j h4; omega
      · exact Int.le_refl _
    · have := h2 j hj; omega
theorem BestN.more {c : Q4} {qs : List Q4} {k m : Nat} (h : BestN c qs k m) (hlt : ¬ dist (qs.getD k default) c < dist (qs.getD m default) c) : BestN c qs (k + 1) m := by
  rcases h with ⟨rfl, rfl⟩ | ⟨h1, h2, h3⟩
  · refine Or.inr ⟨by omega, fun j hj => ?_, fun j hj => by omega⟩
    obtain rfl : j = 0 := by omega
    exact Int.le_refl _
  · refine Or.inr ⟨by omega, fun j hj => ?_, h3⟩
    rcases Nat.lt_succ_iff_lt_or_eq.1 hj with h4 | rfl
    · exact h2 j h4
    · omega
theorem BestN.done {c : Q4} {qs : List Q4} {k m : Nat} (h : BestN c qs k m) (hk : k = qs.length) : Near c qs m := by
  rcases h with ⟨rfl, rfl⟩ | ⟨h1, h2, h3⟩
  · exact Or.inl ⟨List.eq_nil_of_length_eq_zero hk.symm, rfl⟩
  · exact Or.inr ⟨by omega, fun j hj => h2 j (by omega), h3⟩
theorem BestN.lt {c : Q4} {qs : List Q4} {k m n : Nat} (h : BestN c qs k m) (hk : k < n) : m < n := by
  rcases h with ⟨_, rfl⟩ | ⟨h1, _⟩ <;> omega

theorem sfar4 (p q : Q4) (hp : p.ok) (hq : q.ok) (w : World) :
    Calls Try.prog 27 #[.agg #[.int .i64 p.a, .int .i64 p.b, .int .i64 p.c, .int .i64 p.d], .agg #[.int .i64 q.a, .int .i64 q.b, .int .i64 q.c, .int .i64 q.d]] w fun e w' => e = .returned (.int .i64 (dist p q)) ∧ Below w.heap.size w w' := sfar_any p q hp hq w

set_option maxHeartbeats 4000000 in
theorem sPalIndex4 (n cp : Nat) (A : Option Addr) (qs : List Q4) (q : Q4) (hq : q.ok) (w : World) (hr : RdQuads w w.heap.size A n qs) :
    Calls Try.prog 20 #[.slice A n cp, .agg #[.int .i64 q.a, .int .i64 q.b, .int .i64 q.c, .int .i64 q.d]] w fun e w' => ∃ i : Nat, e = .returned (.int .i64 i) ∧ Near q qs i ∧ Below w.heap.size w w' := by
  have HR := Lib.hid hr
  have HQ := Lib.hid hq
  have hn : n * 32 ≤ 140737488355328 := hr.2.1
  clear hr hq
  go_enter Try.func20, Try.ntmps20
  go_wp2_with fail
  go_loopw [10, 5, 6, 7] (fun i v _ _ wr => ∃ (k m : Nat), k ≤ n ∧ i = .int .i64 k ∧ v = .int .i64 m ∧ Hid (BestN q qs k m) ∧ Hid (Below w.heap.size w wr) ∧ Hid (wr.heap[w.heap.size]? = some (.cells #[.int .i64 q.a, .int .i64 q.b, .int .i64 q.c, .int .i64 q.d] 25 (0, 0)))) (fun i _ _ _ _ => n - (intOf i).toNat)
  case atStart => exact ⟨0, 0, by omega, rfl, rfl, Or.inl ⟨rfl, rfl⟩, bsa (Below.refl _ _), heap_alloc_new w _⟩
  case round =>
    obtain ⟨k, m, hk, rfl, rfl, HK, HB, HC⟩ := hrel
    obtain ⟨hl, _, hok, hrd⟩ := HR.out
    by_cases hlt : k < n
    · obtain ⟨b, off, rfl, hg, hc⟩ := hrd (by omega)
      have hm : m < n := HK.out.lt hlt
      obtain ⟨x1, x2, x3, x4⟩ := hc k hlt
      obtain ⟨y1, y2, y3, y4⟩ := hc m hm
      replace x1 := (HB.out.cell (p := ⟨b, off + k * 4, none⟩) hg).trans x1
      replace x2 := (HB.out.cell (p := ⟨b, off + k * 4 + 1, none⟩) hg).trans x2
      replace x3 := (HB.out.cell (p := ⟨b, off + k * 4 + 2, none⟩) hg).trans x3
      replace x4 := (HB.out.cell (p := ⟨b, off + k * 4 + 3, none⟩) hg).trans x4
      replace y1 := (HB.out.cell (p := ⟨b, off + m * 4, none⟩) hg).trans y1
      replace y2 := (HB.out.cell (p := ⟨b, off + m * 4 + 1, none⟩) hg).trans y2
      replace y3 := (HB.out.cell (p := ⟨b, off + m * 4 + 2, none⟩) hg).trans y3
      replace y4 := (HB.out.cell (p := ⟨b, off + m * 4 + 3, none⟩) hg).trans y4
      have HX := Lib.hid (hok _ (getD_mem qs k (by omega)))
      have HY := Lib.hid (hok _ (getD_mem qs m (by omega)))
      have HS := Lib.hid (show dist (qs.getD k default) q < dist (qs.getD m default) q → BestN q qs (k + 1) k from fun h => HK.out.less h)
      have HT := Lib.hid (show ¬ dist (qs.getD k default) q < dist (qs.getD m default) q → BestN q qs (k + 1) m from fun h => HK.out.more h)
      generalize qs.getD k default = x at x1 x2 x3 x4 HX HS HT
      generalize qs.getD m default = y at y1 y2 y3 y4 HY HS HT
      clear hc hrd hl hok HK
      have hm1 : (m : Int) < (n : Int) := by omega
      have hm0 : (0 : Int) ≤ (m : Int) := by omega
      have Y := Lib.hid (show _ from And.intro y1 (And.intro y2 (And.intro y3 y4)))
      clear y1 y2 y3 y4
      go_upto_region 5 with fail
      obtain ⟨W, gx, hW, hgx⟩ : ∃ W g, W = wr.alloc (.cells #[.int .i64 x.a, .int .i64 x.b, .int .i64 x.c, .int .i64 x.d] 25) ∧ g = wr.heap.size := ⟨_, _, rfl, rfl⟩
      have bw : Below w.heap.size w W := by rw [hW]; exact bsa HB.out
      have k_c : W.heap[w.heap.size]? = some (.cells #[.int .i64 q.a, .int .i64 q.b, .int .i64 q.c, .int .i64 q.d] 25 (0, 0)) := by rw [hW]; exact bka HC.out
      have k_x : W.heap[gx]? = some (.cells #[.int .i64 x.a, .int .i64 x.b, .int .i64 x.c, .int .i64 x.d] 25 (0, 0)) := by rw [hW, hgx]; exact heap_alloc_new wr _
      have y1 : W.cell? ⟨b, off + m * 4, none⟩ = some (.int .i64 y.a) := by rw [hW]; exact cka Y.out.1
      have y2 : W.cell? ⟨b, off + m * 4 + 1, none⟩ = some (.int .i64 y.b) := by rw [hW]; exact cka Y.out.2.1
      have y3 : W.cell? ⟨b, off + m * 4 + 2, none⟩ = some (.int .i64 y.c) := by rw [hW]; exact cka Y.out.2.2.1
      have y4 : W.cell? ⟨b, off + m * 4 + 3, none⟩ = some (.int .i64 y.d) := by rw [hW]; exact cka Y.out.2.2.2
      rw [← hW, ← hgx]
      clear hW hgx HB HC x1 x2 x3 x4
      by_cases hbest : dist x q < dist y q
      · have hd : decide (dist x q < dist y q) = true := by simpa using hbest
        have FF := Lib.hid (HS.out hbest)
        refine wp_region_held_drew (S := fun w' => w'.cell? ⟨w.heap.size, 0, none⟩ = some (.int .i64 q.a) ∧ w'.cell? ⟨w.heap.size, 1, none⟩ = some (.int .i64 q.b) ∧ w'.cell? ⟨w.heap.size, 2, none⟩ = some (.int .i64 q.c) ∧ w'.cell? ⟨w.heap.size, 3, none⟩ = some (.int .i64 q.d) ∧ w'.cell? ⟨gx, 0, none⟩ = some (.int .i64 x.a) ∧ w'.cell? ⟨gx, 1, none⟩ = some (.int .i64 x.b) ∧ w'.cell? ⟨gx, 2, none⟩ = some (.int .i64 x.c) ∧ w'.cell? ⟨gx, 3, none⟩ = some (.int .i64 x.d) ∧ w'.cell? ⟨b, off + m * 4, none⟩ = some (.int .i64 y.a) ∧ w'.cell? ⟨b, off + m * 4 + 1, none⟩ = some (.int .i64 y.b) ∧ w'.cell? ⟨b, off + m * 4 + 2, none⟩ = some (.int .i64 y.c) ∧ w'.cell? ⟨b, off + m * 4 + 3, none⟩ = some (.int .i64 y.d)) (by kernel_rfl) ⟨(q4c k_c).1.1, (q4c k_c).1.2.1, (q4c k_c).1.2.2.1, (q4c k_c).1.2.2.2, (q4c k_x).1.1, (q4c k_x).1.2.1, (q4c k_x).1.2.2.1, (q4c k_x).1.2.2.2, (by assumption), (by assumption), (by assumption), (by assumption)⟩ ?_
        intro hHeld
        obtain ⟨X0, eX, bc⟩ : ∃ X, X = W.drew ∧ Below W.heap.size W X := ⟨_, rfl, (Below.refl _ _).drew⟩
        rw [← eX] at hHeld ⊢
        replace k_c := bk bc k_c
        replace k_x := bk bc k_x
        replace bw := bs bc bw
        clear eX bc
        refine takx (i := 0) (D := 15) (v := .agg #[.int .i64 x.a, .int .i64 x.b, .int .i64 x.c, .int .i64 x.d]) rfl rfl (by kernel_rfl) (by kernel_rfl) (by kernel_rfl) (fun _ _ _ h => h) (Or.inl ⟨by rfl, fun W hSw => by (try dsimp only at hSw); go_simp⟩) (by assumption) ?_
        (try simp only [List.setIfInBounds_toArray, List.set_cons_zero, List.set_cons_succ])
        refine takx (i := 1) (D := 16) (v := .agg #[.int .i64 q.a, .int .i64 q.b, .int .i64 q.c, .int .i64 q.d]) rfl rfl (by kernel_rfl) (by kernel_rfl) (by kernel_rfl) (fun _ _ _ h => h) (Or.inl ⟨by rfl, fun W hSw => by (try dsimp only at hSw); go_simp⟩) (by assumption) ?_
        (try simp only [List.setIfInBounds_toArray, List.set_cons_zero, List.set_cons_succ])
        refine takx (i := 3) (D := 18) (v := .slice (some ⟨b, off, none⟩) n cp) rfl rfl (by kernel_rfl) (by kernel_rfl) (by kernel_rfl) (fun _ _ _ h => h) (Or.inl ⟨by rfl, fun W hSw => by (try dsimp only at hSw); go_simp⟩) (by assumption) ?_
        (try simp only [List.setIfInBounds_toArray, List.set_cons_zero, List.set_cons_succ])
        refine takx (i := 4) (D := 19) (v := .int .i64 m) rfl rfl (by kernel_rfl) (by kernel_rfl) (by kernel_rfl) (fun _ _ _ h => h) (Or.inl ⟨by rfl, fun W hSw => by (try dsimp only at hSw); go_simp⟩) (by assumption) ?_
        (try simp only [List.setIfInBounds_toArray, List.set_cons_zero, List.set_cons_succ])
        refine takx (i := 5) (D := 20) (v := .pointer (some ⟨b, off + m * 4, none⟩)) rfl rfl (by kernel_rfl) (by kernel_rfl) (by kernel_rfl) (fun _ _ _ h => h) (Or.inl ⟨by rfl, fun W hSw => by (try dsimp only at hSw); go_simp⟩) (by assumption) ?_
        (try simp only [List.setIfInBounds_toArray, List.set_cons_zero, List.set_cons_succ])
        refine takx (i := 6) (D := 21) (v := .agg #[.int .i64 y.a, .int .i64 y.b, .int .i64 y.c, .int .i64 y.d]) rfl rfl (by kernel_rfl) (by kernel_rfl) (by kernel_rfl) (fun _ _ _ h => h) (Or.inl ⟨by rfl, fun W hSw => by (try dsimp only at hSw); go_simp⟩) (by assumption) ?_
        (try simp only [List.setIfInBounds_toArray, List.set_cons_zero, List.set_cons_succ])
        refine takx (i := 7) (D := 22) (v := .agg #[.int .i64 q.a, .int .i64 q.b, .int .i64 q.c, .int .i64 q.d]) rfl rfl (by kernel_rfl) (by kernel_rfl) (by kernel_rfl) (fun _ _ _ h => h) (Or.inl ⟨by rfl, fun W hSw => by (try dsimp only at hSw); go_simp⟩) (by assumption) ?_
        (try simp only [List.setIfInBounds_toArray, List.set_cons_zero, List.set_cons_succ])
        refine wpAnyH_ready (rs := [2]) (by kernel_rfl) (by simp) ?_
        refine (AllReadyH.cons rfl (fun K hK => ?_) AllReadyH.nil)
        go_simp
        refine (sfar4 x q HX.out HQ.out _).mono ?_
        rintro e X1 ⟨rfl, bc⟩
        refine hK.out _ _ ⟨ck bc hHeld.1, ck bc hHeld.2.1, ck bc hHeld.2.2.1, ck bc hHeld.2.2.2.1, ck bc hHeld.2.2.2.2.1, ck bc hHeld.2.2.2.2.2.1, ck bc hHeld.2.2.2.2.2.2.1, ck bc hHeld.2.2.2.2.2.2.2.1, ck bc hHeld.2.2.2.2.2.2.2.2.1, ck bc hHeld.2.2.2.2.2.2.2.2.2.1, ck bc hHeld.2.2.2.2.2.2.2.2.2.2.1, ck bc hHeld.2.2.2.2.2.2.2.2.2.2.2⟩ (fun hHeld => ?_)
        clear hK K
        (try simp only [List.setIfInBounds_toArray, List.set_cons_zero, List.set_cons_succ])
        replace k_c := bk bc k_c
        replace k_x := bk bc k_x
        replace bw := bs bc bw
        clear bc
        refine wpAnyH_ready (rs := [8]) (by kernel_rfl) (by simp) ?_
        refine (AllReadyH.cons rfl (fun K hK => ?_) AllReadyH.nil)
        go_simp
        refine (sfar4 y q HY.out HQ.out _).mono ?_
        rintro e X2 ⟨rfl, bc⟩
        refine hK.out _ _ ⟨ck bc hHeld.1, ck bc hHeld.2.1, ck bc hHeld.2.2.1, ck bc hHeld.2.2.2.1, ck bc hHeld.2.2.2.2.1, ck bc hHeld.2.2.2.2.2.1, ck bc hHeld.2.2.2.2.2.2.1, ck bc hHeld.2.2.2.2.2.2.2.1, ck bc hHeld.2.2.2.2.2.2.2.2.1, ck bc hHeld.2.2.2.2.2.2.2.2.2.1, ck bc hHeld.2.2.2.2.2.2.2.2.2.2.1, ck bc hHeld.2.2.2.2.2.2.2.2.2.2.2⟩ (fun hHeld => ?_)
        clear hK K
        (try simp only [List.setIfInBounds_toArray, List.set_cons_zero, List.set_cons_succ])
        replace k_c := bk bc k_c
        replace k_x := bk bc k_x
        replace bw := bs bc bw
        clear bc
        refine takx (i := 9) (D := 24) (v := .bool true) rfl rfl (by kernel_rfl) (by kernel_rfl) (by kernel_rfl) (fun _ _ _ h => h) (Or.inl ⟨by rfl, fun W hSw => by (try dsimp only at hSw); go_simp⟩) (by assumption) ?_
        (try simp only [List.setIfInBounds_toArray, List.set_cons_zero, List.set_cons_succ])
        refine wpAnyH_done (by kernel_rfl) ?_ _
        clear hHeld k_x y1 y2 y3 y4
        go_wp2
        go_roundw
        case rel => exact ⟨k + 1, k, by omega, by go_num, rfl, FF, bw, k_c⟩
        case measure => simp [intOf]; omega
      · have hd : decide (dist x q < dist y q) = false := by simpa using hbest
        have FF := Lib.hid (HT.out hbest)
        refine wp_region_held_drew (S := fun w' => w'.cell? ⟨w.heap.size, 0, none⟩ = some (.int .i64 q.a) ∧ w'.cell? ⟨w.heap.size, 1, none⟩ = some (.int .i64 q.b) ∧ w'.cell? ⟨w.heap.size, 2, none⟩ = some (.int .i64 q.c) ∧ w'.cell? ⟨w.heap.size, 3, none⟩ = some (.int .i64 q.d) ∧ w'.cell? ⟨gx, 0, none⟩ = some (.int .i64 x.a) ∧ w'.cell? ⟨gx, 1, none⟩ = some (.int .i64 x.b) ∧ w'.cell? ⟨gx, 2, none⟩ = some (.int .i64 x.c) ∧ w'.cell? ⟨gx, 3, none⟩ = some (.int .i64 x.d) ∧ w'.cell? ⟨b, off + m * 4, none⟩ = some (.int .i64 y.a) ∧ w'.cell? ⟨b, off + m * 4 + 1, none⟩ = some (.int .i64 y.b) ∧ w'.cell? ⟨b, off + m * 4 + 2, none⟩ = some (.int .i64 y.c) ∧ w'.cell? ⟨b, off + m * 4 + 3, none⟩ = some (.int .i64 y.d)) (by kernel_rfl) ⟨(q4c k_c).1.1, (q4c k_c).1.2.1, (q4c k_c).1.2.2.1, (q4c k_c).1.2.2.2, (q4c k_x).1.1, (q4c k_x).1.2.1, (q4c k_x).1.2.2.1, (q4c k_x).1.2.2.2, (by assumption), (by assumption), (by assumption), (by assumption)⟩ ?_
        intro hHeld
        obtain ⟨X0, eX, bc⟩ : ∃ X, X = W.drew ∧ Below W.heap.size W X := ⟨_, rfl, (Below.refl _ _).drew⟩
        rw [← eX] at hHeld ⊢
        replace k_c := bk bc k_c
        replace k_x := bk bc k_x
        replace bw := bs bc bw
        clear eX bc
        refine takx (i := 0) (D := 15) (v := .agg #[.int .i64 x.a, .int .i64 x.b, .int .i64 x.c, .int .i64 x.d]) rfl rfl (by kernel_rfl) (by kernel_rfl) (by kernel_rfl) (fun _ _ _ h => h) (Or.inl ⟨by rfl, fun W hSw => by (try dsimp only at hSw); go_simp⟩) (by assumption) ?_
        (try simp only [List.setIfInBounds_toArray, List.set_cons_zero, List.set_cons_succ])
        refine takx (i := 1) (D := 16) (v := .agg #[.int .i64 q.a, .int .i64 q.b, .int .i64 q.c, .int .i64 q.d]) rfl rfl (by kernel_rfl) (by kernel_rfl) (by kernel_rfl) (fun _ _ _ h => h) (Or.inl ⟨by rfl, fun W hSw => by (try dsimp only at hSw); go_simp⟩) (by assumption) ?_
        (try simp only [List.setIfInBounds_toArray, List.set_cons_zero, List.set_cons_succ])
        refine takx (i := 3) (D := 18) (v := .slice (some ⟨b, off, none⟩) n cp) rfl rfl (by kernel_rfl) (by kernel_rfl) (by kernel_rfl) (fun _ _ _ h => h) (Or.inl ⟨by rfl, fun W hSw => by (try dsimp only at hSw); go_simp⟩) (by assumption) ?_
        (try simp only [List.setIfInBounds_toArray, List.set_cons_zero, List.set_cons_succ])
        refine takx (i := 4) (D := 19) (v := .int .i64 m) rfl rfl (by kernel_rfl) (by kernel_rfl) (by kernel_rfl) (fun _ _ _ h => h) (Or.inl ⟨by rfl, fun W hSw => by (try dsimp only at hSw); go_simp⟩) (by assumption) ?_
        (try simp only [List.setIfInBounds_toArray, List.set_cons_zero, List.set_cons_succ])
        refine takx (i := 5) (D := 20) (v := .pointer (some ⟨b, off + m * 4, none⟩)) rfl rfl (by kernel_rfl) (by kernel_rfl) (by kernel_rfl) (fun _ _ _ h => h) (Or.inl ⟨by rfl, fun W hSw => by (try dsimp only at hSw); go_simp⟩) (by assumption) ?_
        (try simp only [List.setIfInBounds_toArray, List.set_cons_zero, List.set_cons_succ])
        refine takx (i := 6) (D := 21) (v := .agg #[.int .i64 y.a, .int .i64 y.b, .int .i64 y.c, .int .i64 y.d]) rfl rfl (by kernel_rfl) (by kernel_rfl) (by kernel_rfl) (fun _ _ _ h => h) (Or.inl ⟨by rfl, fun W hSw => by (try dsimp only at hSw); go_simp⟩) (by assumption) ?_
        (try simp only [List.setIfInBounds_toArray, List.set_cons_zero, List.set_cons_succ])
        refine takx (i := 7) (D := 22) (v := .agg #[.int .i64 q.a, .int .i64 q.b, .int .i64 q.c, .int .i64 q.d]) rfl rfl (by kernel_rfl) (by kernel_rfl) (by kernel_rfl) (fun _ _ _ h => h) (Or.inl ⟨by rfl, fun W hSw => by (try dsimp only at hSw); go_simp⟩) (by assumption) ?_
        (try simp only [List.setIfInBounds_toArray, List.set_cons_zero, List.set_cons_succ])
        refine wpAnyH_ready (rs := [2]) (by kernel_rfl) (by simp) ?_
        refine (AllReadyH.cons rfl (fun K hK => ?_) AllReadyH.nil)
        go_simp
        refine (sfar4 x q HX.out HQ.out _).mono ?_
        rintro e X1 ⟨rfl, bc⟩
        refine hK.out _ _ ⟨ck bc hHeld.1, ck bc hHeld.2.1, ck bc hHeld.2.2.1, ck bc hHeld.2.2.2.1, ck bc hHeld.2.2.2.2.1, ck bc hHeld.2.2.2.2.2.1, ck bc hHeld.2.2.2.2.2.2.1, ck bc hHeld.2.2.2.2.2.2.2.1, ck bc hHeld.2.2.2.2.2.2.2.2.1, ck bc hHeld.2.2.2.2.2.2.2.2.2.1, ck bc hHeld.2.2.2.2.2.2.2.2.2.2.1, ck bc hHeld.2.2.2.2.2.2.2.2.2.2.2⟩ (fun hHeld => ?_)
        clear hK K
        (try simp only [List.setIfInBounds_toArray, List.set_cons_zero, List.set_cons_succ])
        replace k_c := bk bc k_c
        replace k_x := bk bc k_x
        replace bw := bs bc bw
        clear bc
        refine wpAnyH_ready (rs := [8]) (by kernel_rfl) (by simp) ?_
        refine (AllReadyH.cons rfl (fun K hK => ?_) AllReadyH.nil)
        go_simp
        refine (sfar4 y q HY.out HQ.out _).mono ?_
        rintro e X2 ⟨rfl, bc⟩
        refine hK.out _ _ ⟨ck bc hHeld.1, ck bc hHeld.2.1, ck bc hHeld.2.2.1, ck bc hHeld.2.2.2.1, ck bc hHeld.2.2.2.2.1, ck bc hHeld.2.2.2.2.2.1, ck bc hHeld.2.2.2.2.2.2.1, ck bc hHeld.2.2.2.2.2.2.2.1, ck bc hHeld.2.2.2.2.2.2.2.2.1, ck bc hHeld.2.2.2.2.2.2.2.2.2.1, ck bc hHeld.2.2.2.2.2.2.2.2.2.2.1, ck bc hHeld.2.2.2.2.2.2.2.2.2.2.2⟩ (fun hHeld => ?_)
        clear hK K
        (try simp only [List.setIfInBounds_toArray, List.set_cons_zero, List.set_cons_succ])
        replace k_c := bk bc k_c
        replace k_x := bk bc k_x
        replace bw := bs bc bw
        clear bc
        refine takx (i := 9) (D := 24) (v := .bool false) rfl rfl (by kernel_rfl) (by kernel_rfl) (by kernel_rfl) (fun _ _ _ h => h) (Or.inl ⟨by rfl, fun W hSw => by (try dsimp only at hSw); go_simp⟩) (by assumption) ?_
        (try simp only [List.setIfInBounds_toArray, List.set_cons_zero, List.set_cons_succ])
        refine wpAnyH_done (by kernel_rfl) ?_ _
        clear hHeld k_x y1 y2 y3 y4
        go_wp2
        go_roundw
        case rel => exact ⟨k + 1, m, by omega, by go_num, rfl, FF, bw, k_c⟩
        case measure => simp [intOf]; omega
    · obtain rfl : k = n := by omega
      have FF := Lib.hid (HK.out.done hl.symm)
      clear hrd
      go_wp2
      go_ret
      exact ⟨m, rfl, FF.out, HB.out⟩

theorem sPalConv0 (n cp : Nat) (A : Option Addr) (a b c d : Int) (w : World) (h0 : Hid (n = 0)) :
    Calls Try.prog 19 #[.slice A n cp, .agg #[.int .i64 a, .int .i64 b, .int .i64 c, .int .i64 d]] w fun e w' => e = .returned (.tuple #[.agg #[.int .i64 0, .int .i64 0, .int .i64 0, .int .i64 0], .bool false]) ∧ Below w.heap.size w w' := by
  obtain rfl : n = 0 := h0.out
  go_enter Try.func19, Try.ntmps19
  go_wp2
  exact bodyPost_ret (v := .tuple #[.agg #[.int .i64 0, .int .i64 0, .int .i64 0, .int .i64 0], .bool false]) (by simp [results, Try.results19, go_sem]) rfl ⟨rfl, by first | exact bss (Nat.le_succ _) (bss (Nat.le_succ _) (bss (Nat.le_succ _) (bss (Nat.le_succ _) (bsa (bsa (Below.refl _ _)))))) | exact bsa (bsa (Below.refl _ _))⟩

set_option maxHeartbeats 4000000 in
theorem sPalConv4 (n cp : Nat) (A : Option Addr) (qs : List Q4) (q : Q4) (hq : q.ok) (w : World) (hr : RdQuads w w.heap.size A n qs) (h0 : 0 < n) :
    Calls Try.prog 19 #[.slice A n cp, .agg #[.int .i64 q.a, .int .i64 q.b, .int .i64 q.c, .int .i64 q.d]] w fun e w' => ∃ (i : Nat) (x : Q4), e = .returned (.tuple #[.agg #[.int .i64 (x.a % 256), .int .i64 (x.b % 256), .int .i64 (x.c % 256), .int .i64 (x.d % 256)], .bool true]) ∧ x = qs.getD i default ∧ Near q qs i ∧ Below w.heap.size w w' := by
  have HR := Lib.hid hr
  have HQ := Lib.hid hq
  have hn : n * 32 ≤ 140737488355328 := hr.2.1
  have hz : ((n : Int) == 0) = false := by simp; omega
  clear hr hq
  go_enter Try.func19, Try.ntmps19
  go_wp2_with fail
  have b0 : Below w.heap.size w ((w.alloc (.cells #[.int .i64 q.a, .int .i64 q.b, .int .i64 q.c, .int .i64 q.d] 25)).alloc (.cells #[.int .i64 0, .int .i64 0, .int .i64 0, .int .i64 0] 25)) := bsa (bsa (Below.refl _ _))
  refine (sPalIndex4 n cp A qs q HQ.out _ ((HR.out.below b0).more b0.size)).mono ?_
  rintro e w1 ⟨i, rfl, hf, b1⟩
  have KR := Lib.hid (bk b1 (heap_new2 w _ _))
  have bw := Lib.hid (bs b1 b0)
  obtain ⟨hl, _, hok, hrd⟩ := HR.out.below bw.out
  obtain ⟨g, off, rfl, hg, hc⟩ := hrd (by omega)
  have hi : i < n := by have := hf.lt (by omega); omega
  obtain ⟨x1, x2, x3, x4⟩ := hc i hi
  have HX := Lib.hid (hok _ (getD_mem qs i (by omega)))
  generalize hv : qs.getD i default = x at x1 x2 x3 x4 HX
  have HV := Lib.hid hv
  have HF := Lib.hid hf
  clear hv hf hrd hc hl hok b1 b0
  have hm1 : (i : Int) < (n : Int) := by omega
  obtain ⟨ha, hb, hc, hd⟩ := HX.out
  go_wp2_with fail
  refine region_tail 13 (by kernel_rfl) (by kernel_rfl) ?_
  simp only [List.take_succ_cons, List.take_zero, List.drop_succ_cons, List.drop_zero]
  repeat (first | still_step | still_call (slow_same _ (by assumption) _))
  refine wpStill_nil ?_
  obtain ⟨⟨s0, s1, s2, s3⟩, g0, g1, g2, g3⟩ := q4c KR.out
  have n1 : ¬ w.heap.size + 1 = w1.heap.size := by have := lt_of_block KR.out; omega
  have n2 : w.heap.size + 1 < w1.heap.size := lt_of_block KR.out
  go_wp2
  refine bodyPost_ret (v := .tuple #[.agg #[.int .i64 (x.a % 256), .int .i64 (x.b % 256), .int .i64 (x.c % 256), .int .i64 (x.d % 256)], .bool true]) (by simp [results, Try.results19, go_sem, s0, s1, s2, s3, n1, n2]) rfl ?_
  exact ⟨i, x, rfl, HV.out.symm, HF.out, (bsa (bss (Nat.le_succ _) (bss (Nat.le_succ _) (bss (Nat.le_succ _) (bss (Nat.le_succ _) bw.out))))).drew⟩

end Go.Proofs.Ytbhccckfooobcaa

/-
  Contracts: a part of an image; At; Opaque. No condition.
-/
import Derived.Test.YtpllecddmpdaiaaN6
import Derived.Test.YtpllecddmpdaiaaI6
import Derived.Test.YtpllecddmpdaiaaI6N
namespace Go.Proofs.Ytpllecddmpdaiaa
open Go.ChangeShapes Go.WideShapes Go.ChangeAt Go.RowKit
set_option linter.unusedVariables false
set_option linter.unusedSimpArgs false

/-- Block gp holds the image that has nothing. -/
def Nil (w : World) (gp : Nat) : Prop := w.heap[gp]? = some (.cells #[.slice none 0 0, .int .i64 0, .int .i64 0, .int .i64 0, .int .i64 0, .int .i64 0] 52 (0, 0))

set_option maxRecDepth 100000 in
theorem sub_none (gp : Nat) (p q r s a b c d A B C D : Int) (w : World) (hlt : gp < w.heap.size) (r2 : w.cell? ⟨gp, 2, none⟩ = some (.int .i64 a)) (r3 : w.cell? ⟨gp, 3, none⟩ = some (.int .i64 b)) (r4 : w.cell? ⟨gp, 4, none⟩ = some (.int .i64 c)) (r5 : w.cell? ⟨gp, 5, none⟩ = some (.int .i64 d))
    (hA : Gr p a A) (hB : Gr q b B) (hC : Ls r c C) (hD : Ls s d D) (h1 : C ≤ A ∨ D ≤ B) :
    Calls Try.prog 11 #[.pointer (some ⟨gp, 0, none⟩), .agg #[.int .i64 p, .int .i64 q, .int .i64 r, .int .i64 s]] w fun e w' => ∃ g, e = .returned (.iface 39 (.pointer (some ⟨g, 0, none⟩))) ∧ w.heap.size ≤ g ∧ Nil w' g ∧ Below w.heap.size w w' := by
  have X := Lib.hid (isect_none p q r s a b c d A B C D hA hB hC hD h1)
  clear hA hB hC hD h1
  have hne : ¬ gp = w.heap.size := by omega
  have l1 : gp < w.heap.size + 1 := by omega
  go_enter Try.func11, Try.ntmps11
  go_wp2
  refine region_tail 5 (by kernel_rfl) (by kernel_rfl) ?_
  simp only [List.take_succ_cons, List.take_zero, List.drop_succ_cons, List.drop_zero]
  repeat still_step
  refine wpStill_nil ?_
  go_wp2_with fail
  refine (X.out _).mono ?_
  rintro e w1 ⟨rfl, b1⟩
  have bw : Below w.heap.size w w1 := ((Below.refl _ _).alloc (Nat.le_refl _) _).drew.trans (b1.mono (by simp))
  obtain ⟨hc, hf⟩ := bcell b1
  have z0 : w.heap.size < w.heap.size + 1 := by omega
  have zz : w.heap.size < w1.heap.size := Nat.lt_of_lt_of_le (by simp) b1.size
  have c0 : w1.cell? ⟨w.heap.size, 0, none⟩ = some (.int .i64 p) := by rw [hc w.heap.size 0 (by simp)]; simp
  have c1 : w1.cell? ⟨w.heap.size, 1, none⟩ = some (.int .i64 q) := by rw [hc w.heap.size 1 (by simp)]; simp
  have c2 : w1.cell? ⟨w.heap.size, 2, none⟩ = some (.int .i64 r) := by rw [hc w.heap.size 2 (by simp)]; simp
  have c3 : w1.cell? ⟨w.heap.size, 3, none⟩ = some (.int .i64 s) := by rw [hc w.heap.size 3 (by simp)]; simp
  have f0 : w1.frozen? ⟨w.heap.size, 0, none⟩ = false := by rw [hf w.heap.size 0 (by simp)]; simp
  have f1 : w1.frozen? ⟨w.heap.size, 1, none⟩ = false := by rw [hf w.heap.size 1 (by simp)]; simp
  have f2 : w1.frozen? ⟨w.heap.size, 2, none⟩ = false := by rw [hf w.heap.size 2 (by simp)]; simp
  have f3 : w1.frozen? ⟨w.heap.size, 3, none⟩ = false := by rw [hf w.heap.size 3 (by simp)]; simp
  clear hc hf b1
  go_wp2_with fail
  refine (empty_yes _ _ _ _ (by omega) _).mono ?_
  rintro e w2 ⟨rfl, b2⟩
  have bw2 : Below w.heap.size w w2 := ((((bw.setCell (p := ⟨w.heap.size, 0, none⟩) (Nat.le_refl _) _).setCell (p := ⟨w.heap.size, 1, none⟩) (Nat.le_refl _) _).setCell (p := ⟨w.heap.size, 2, none⟩) (Nat.le_refl _) _).setCell (p := ⟨w.heap.size, 3, none⟩) (Nat.le_refl _) _).trans (b2.mono (by have := bw.size; simpa [World.setCell] using this))
  go_wp2
  go_ret
  exact ⟨w2.heap.size, rfl, bw2.size, heap_alloc_new w2 _, bw2.alloc bw2.size _⟩

set_option maxRecDepth 100000 in
theorem sub_some (gp gb off len o : Nat) (p q r s st a b c d A B C D : Int) (w : World) (hi : Img w gp gb off len st a b c d)
    (hA : Gr p a A) (hB : Gr q b B) (hC : Ls r c C) (hD : Ls s d D) (h1 : A < C) (h2 : B < D) (h3 : d - b ≤ 1000) (h4 : c - a ≤ 1000) (h5 : 0 ≤ st) (h6 : st ≤ 4000) (ho : (B - b) * st + (A - a) * 4 = o) (hol : o < len) (hl4 : len ≤ 4000000) :
    Calls Try.prog 11 #[.pointer (some ⟨gp, 0, none⟩), .agg #[.int .i64 p, .int .i64 q, .int .i64 r, .int .i64 s]] w fun e w' => ∃ g, e = .returned (.iface 39 (.pointer (some ⟨g, 0, none⟩))) ∧ w.heap.size ≤ g ∧ Img w' g gb (off + o) (len - o) st A B C D ∧ Below w.heap.size w w' := by
  have X := Lib.hid (isect_some p q r s a b c d A B C D hA hB hC hD h1 h2)
  have hlt := hi.lt
  obtain ⟨r0, r1, r2, r3, r4, r5⟩ := hi.cells
  have k1 : 0 ≤ B - b ∧ B - b ≤ 1000 ∧ 0 ≤ A - a ∧ A - a ≤ 1000 := by
    unfold Gr at hA hB
    unfold Ls at hC hD
    omega
  have HO := Lib.hid ho
  clear hA hB hC hD ho hi
  have hne : ¬ gp = w.heap.size := by omega
  have l1 : gp < w.heap.size + 1 := by omega
  have hoI : (o : Int) < (len : Int) := by omega
  have hoN : ¬ len = o := by omega
  have hoL : o ≤ len := by omega
  have hoM : (o : Int) ≤ (len : Int) := by omega
  go_enter Try.func11, Try.ntmps11
  go_wp2
  refine region_tail 5 (by kernel_rfl) (by kernel_rfl) ?_
  simp only [List.take_succ_cons, List.take_zero, List.drop_succ_cons, List.drop_zero]
  repeat still_step
  refine wpStill_nil ?_
  go_wp2_with fail
  refine (X.out _).mono ?_
  rintro e w1 ⟨rfl, b1⟩
  have bw : Below w.heap.size w w1 := ((Below.refl _ _).alloc (Nat.le_refl _) _).drew.trans (b1.mono (by simp))
  obtain ⟨hc, hf⟩ := bcell b1
  have zz : w.heap.size < w1.heap.size := Nat.lt_of_lt_of_le (by simp) b1.size
  have c0 : w1.cell? ⟨w.heap.size, 0, none⟩ = some (.int .i64 p) := by rw [hc w.heap.size 0 (by simp)]; simp
  have c1 : w1.cell? ⟨w.heap.size, 1, none⟩ = some (.int .i64 q) := by rw [hc w.heap.size 1 (by simp)]; simp
  have c2 : w1.cell? ⟨w.heap.size, 2, none⟩ = some (.int .i64 r) := by rw [hc w.heap.size 2 (by simp)]; simp
  have c3 : w1.cell? ⟨w.heap.size, 3, none⟩ = some (.int .i64 s) := by rw [hc w.heap.size 3 (by simp)]; simp
  have f0 : w1.frozen? ⟨w.heap.size, 0, none⟩ = false := by rw [hf w.heap.size 0 (by simp)]; simp
  have f1 : w1.frozen? ⟨w.heap.size, 1, none⟩ = false := by rw [hf w.heap.size 1 (by simp)]; simp
  have f2 : w1.frozen? ⟨w.heap.size, 2, none⟩ = false := by rw [hf w.heap.size 2 (by simp)]; simp
  have f3 : w1.frozen? ⟨w.heap.size, 3, none⟩ = false := by rw [hf w.heap.size 3 (by simp)]; simp
  have q0 := (bw.cell (p := ⟨gp, 0, none⟩) hlt).trans r0
  have q1 := (bw.cell (p := ⟨gp, 1, none⟩) hlt).trans r1
  have q2 := (bw.cell (p := ⟨gp, 2, none⟩) hlt).trans r2
  have q3 := (bw.cell (p := ⟨gp, 3, none⟩) hlt).trans r3
  clear hc hf b1 r0 r1 r2 r3 r4 r5 X
  go_wp2_with fail
  refine (empty_no _ _ _ _ h1 h2 _).mono ?_
  rintro e w2 ⟨rfl, b2⟩
  have bw1 : Below w.heap.size w ((((w1.setCell ⟨w.heap.size, 0, none⟩ (.int .i64 A)).setCell ⟨w.heap.size, 1, none⟩ (.int .i64 B)).setCell ⟨w.heap.size, 2, none⟩ (.int .i64 C)).setCell ⟨w.heap.size, 3, none⟩ (.int .i64 D)) := (((bw.setCell (p := ⟨w.heap.size, 0, none⟩) (Nat.le_refl _) _).setCell (p := ⟨w.heap.size, 1, none⟩) (Nat.le_refl _) _).setCell (p := ⟨w.heap.size, 2, none⟩) (Nat.le_refl _) _).setCell (p := ⟨w.heap.size, 3, none⟩) (Nat.le_refl _) _
  have bw2 : Below w.heap.size w w2 := bw1.trans (b2.mono bw1.size)
  obtain ⟨hc, _⟩ := bcell b2
  have zs : w.heap.size < ((((w1.setCell ⟨w.heap.size, 0, none⟩ (.int .i64 A)).setCell ⟨w.heap.size, 1, none⟩ (.int .i64 B)).setCell ⟨w.heap.size, 2, none⟩ (.int .i64 C)).setCell ⟨w.heap.size, 3, none⟩ (.int .i64 D)).heap.size := by simpa [World.setCell] using zz
  have d0 : w2.cell? ⟨w.heap.size, 0, none⟩ = some (.int .i64 A) := by rw [hc _ 0 zs]; go_simp
  have d1 : w2.cell? ⟨w.heap.size, 1, none⟩ = some (.int .i64 B) := by rw [hc _ 1 zs]; go_simp
  have d2 : w2.cell? ⟨w.heap.size, 2, none⟩ = some (.int .i64 C) := by rw [hc _ 2 zs]; go_simp
  have d3 : w2.cell? ⟨w.heap.size, 3, none⟩ = some (.int .i64 D) := by rw [hc _ 3 zs]; go_simp
  have u0 := (bw2.cell (p := ⟨gp, 0, none⟩) hlt).trans ((bw.cell (p := ⟨gp, 0, none⟩) hlt).symm.trans q0)
  have u1 := (bw2.cell (p := ⟨gp, 1, none⟩) hlt).trans ((bw.cell (p := ⟨gp, 1, none⟩) hlt).symm.trans q1)
  have u2 := (bw2.cell (p := ⟨gp, 2, none⟩) hlt).trans ((bw.cell (p := ⟨gp, 2, none⟩) hlt).symm.trans q2)
  have u3 := (bw2.cell (p := ⟨gp, 3, none⟩) hlt).trans ((bw.cell (p := ⟨gp, 3, none⟩) hlt).symm.trans q3)
  clear c0 c1 c2 c3 f0 f1 f2 f3 q0 q1 q2 q3 hc zs bw1 b2 bw
  obtain ⟨k1, k2, k3, k4⟩ := k1
  go_wp2_with fail
  refine (pixoff_in gp o A B st a b _ u1 u2 u3 k1 k2 k3 k4 h5 h6 HO.out).mono ?_
  rintro e w3 ⟨rfl, k, rfl⟩
  go_wp2_with fail
  refine region_tail 12 (by kernel_rfl) (by kernel_rfl) ?_
  simp only [List.take_succ_cons, List.take_zero, List.drop_succ_cons, List.drop_zero]
  repeat still_step
  refine wpStill_nil ?_
  go_wp2
  go_ret
  exact ⟨w2.heap.size, rfl, bw2.size, heap_alloc_new (w2.drewN (k + 1)) _, (below_drewN bw2 (k + 1)).alloc bw2.size _⟩

end Go.Proofs.Ytpllecddmpdaiaa

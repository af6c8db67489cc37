/-
  Contract: a part that has no point in common with the image, through the thin package. No condition.
-/
import Derived.Test.YtpijljokcoocpaaR4
namespace Go.Proofs.Ytpijljokcoocpaa
open Go.ChangeShapes Go.WideShapes Go.ChangeAt Go.RowKit
set_option linter.unusedVariables false
set_option linter.unusedSimpArgs false

theorem heap_nw3 (w : World) (X Y Z : Obj) : (((w.alloc X).alloc Y).alloc Z).heap[w.heap.size + 2]? = some Z := by
  have := heap_alloc_new ((w.alloc X).alloc Y) Z
  simpa using this
set_option maxRecDepth 100000 in
theorem graySub_none (a b c d : Int) (N : Nat) (h3 : 0 ≤ c - a) (h4 : c - a ≤ 1000) (h5 : 0 ≤ d - b) (h6 : d - b ≤ 1000) (hN : (c - a) * (d - b) = N) (n cp : Nat) (Z : Option Addr) (zs : List Int) (s : Q4) (hc : com ⟨a, b, c, d⟩ s = none) (w : World) (hr : Rd w w.heap.size Z n zs) :
    Calls Try.prog 41 #[.agg #[.int .i64 a, .int .i64 b, .int .i64 c, .int .i64 d], .slice Z n cp, .agg #[.int .i64 s.a, .int .i64 s.b, .int .i64 s.c, .int .i64 s.d]] w (PicOut 0 0 0 0 0 0 [] w) := by
  have HN := Lib.hid hN
  have HR := Lib.hid hr
  have HC := Lib.hid (com_none hc)
  clear hN hr hc
  obtain ⟨s0, s1, s2, s3⟩ := s
  dsimp only at HC
  show Calls Try.prog 41 #[.agg #[.int .i64 a, .int .i64 b, .int .i64 c, .int .i64 d], .slice Z n cp, .agg #[.int .i64 s0, .int .i64 s1, .int .i64 s2, .int .i64 s3]] w _
  obtain ⟨X, hX⟩ : ∃ X, X = (((w.alloc (.cells #[.int .i64 a, .int .i64 b, .int .i64 c, .int .i64 d] 26)).alloc (.cells #[.int .i64 s0, .int .i64 s1, .int .i64 s2, .int .i64 s3] 26)).alloc (.cells #[.int .i64 0, .int .i64 0, .int .i64 0, .int .i64 0, .int .i64 0, .slice none 0 0] 29)) := ⟨_, rfl⟩
  have b0 : Below w.heap.size w X := by rw [hX]; exact bsa (bsa (bsa (Below.refl _ _)))
  have p6 : PBlk X (w.heap.size + 2) 0 0 0 0 0 (.slice none 0 0) := by rw [hX]; exact heap_nw3 w _ _ _
  have k_q : X.heap[w.heap.size + 1]? = some (.cells #[.int .i64 s0, .int .i64 s1, .int .i64 s2, .int .i64 s3] 26 (0, 0)) := by rw [hX]; exact bka (heap_new2 w _ _)
  have hXs : X.heap.size = w.heap.size + 3 := by rw [hX]; simp
  go_enter Try.func41, Try.ntmps41
  go_wp2_with fail
  rw [← hX]
  refine (inewGray_any a b c d N n cp 0 Z zs h3 h4 h5 h6 HN.out _ ((HR.out.below b0).more b0.size)).mono ?_
  rintro e w1 ⟨gp, gb, rfl, hgp, hgb, hi, hp, b1⟩
  have bw1 : Below w.heap.size w w1 := bst b1 b0
  have p7 : PBlk w1 (w.heap.size + 2) 0 0 0 0 0 (.slice none 0 0) := bk b1 p6
  have q1 := (q4c (bk b1 k_q)).1
  clear hX b1 b0 p6 k_q hgb
  go_wp2_with fail
  refine (rectangle4 _ _ _ _ _).mono ?_
  rintro e w2 ⟨rfl, b2⟩
  have bw2 := bst b2 bw1
  have p8 : PBlk w2 (w.heap.size + 2) 0 0 0 0 0 (.slice none 0 0) := bk b2 p7
  have hi2 : Img w2 gp gb 0 N (c - a) a b c d := bk b2 hi
  clear b2 bw1 p7 hi hp q1
  go_wp2_with fail
  obtain ⟨_, _, r2, r3, r4, r5⟩ := hi2.cells
  refine (sub_none gp s0 s1 s2 s3 a b c d _ _ _ _ w2 hi2.lt r2 r3 r4 r5 (gmax_gr _ _) (gmax_gr _ _) (lmin_ls _ _) (lmin_ls _ _) HC.out).mono ?_
  rintro e w3 ⟨g, rfl, hg, hnil, b3⟩
  have hta := fun W => ta_img g W
  have bw3 := bst b3 bw2
  have p9 : PBlk w3 (w.heap.size + 2) 0 0 0 0 0 (.slice none 0 0) := bk b3 p8
  have lz : w.heap.size + 2 < w3.heap.size := p9.lt
  have P9 := Lib.hid p9
  obtain ⟨n2, n3, n4, n5, n1⟩ := hnil.cells
  have n0 : w3.cell? ⟨g, 0, none⟩ = some (.slice none 0 0) := cell_of_row w3 g 0 _ _ (0, 0) hnil
  have hgl : g < w3.heap.size := lt_of_block hnil
  clear b3 bw2 p8 p9 r2 r3 r4 r5 hi2 hnil
  go_wp2_with fail
  refine region_tail 12 (by kernel_rfl) (by kernel_rfl) ?_
  simp only [List.take_succ_cons, List.take_zero, List.drop_succ_cons, List.drop_zero]
  repeat still_step
  refine wpStill_nil ?_
  clear n0 n1 n2 n3 n4 n5 hta
  go_wp2_with fail
  refine (picture_any 0 0 0 0 0 0 0 none [] w3.drew ⟨rfl, by omega, by simp, fun h => absurd h (by omega)⟩).mono ?_
  rintro e w4 ⟨A, cp', rfl, hrd, hlo, hb3⟩
  have p8 : PBlk w4 (w.heap.size + 2) 0 0 0 0 0 (.slice none 0 0) := (hb3.block _ lz).trans P9.out
  obtain ⟨s0, s1, s2, s3, s4, s5⟩ := p8.cell
  have g0 := p8.free 0
  have g1 := p8.free 1
  have g2 := p8.free 2
  have g3 := p8.free 3
  have g4 := p8.free 4
  have g5 := p8.free 5
  have b9 := Lib.hid (bw3.drew.trans (hb3.mono bw3.size))
  have RD := Lib.hid (show _ from And.intro hrd hlo)
  clear hrd hlo hb3 p8 P9
  go_wp2
  refine bodyPost_ret (v := .agg #[.int .i64 0, .int .i64 0, .int .i64 0, .int .i64 0, .int .i64 0, .slice A 0 cp']) (by simp [results, Try.results41, go_sem, s0, s1, s2, s3, s4, s5]) rfl ?_
  exact picOut_set RD.out.1 (fun b o h => Nat.lt_of_lt_of_le lz (RD.out.2 b o h)) b9.out (by omega)

end Go.Proofs.Ytpijljokcoocpaa

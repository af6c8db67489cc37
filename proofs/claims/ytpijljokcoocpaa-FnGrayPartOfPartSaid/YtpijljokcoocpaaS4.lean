/-
  Contract: the reference's write to a gray image. No condition.
-/
import Derived.Test.YtpijljokcoocpaaS3
namespace Go.Proofs.Ytpijljokcoocpaa
open Go.ChangeShapes Go.WideShapes Go.ChangeAt Go.RowKit
set_option linter.unusedVariables false
set_option linter.unusedSimpArgs false

theorem paint_gray (x y v : Int) (g g1 cp : Nat) (a b c d : Int) (N : Nat) (h3 : 0 ≤ c - a) (h4 : c - a ≤ 1000) (h5 : 0 ≤ d - b) (h6 : d - b ≤ 1000) (hN : (c - a) * (d - b) = N) (bs : List Int) (w : World) (hp : IPix w g bs) (hl : bs.length = N) (hv : I64 v) (hb : w.heap[g1]? = some (.cells #[.int .i64 v] 3 (0, 0))) (hne : g1 ≠ g) :
    Calls Try.prog 58 #[.agg #[.int .i64 a, .int .i64 b, .int .i64 c, .int .i64 d, .int .i64 (c - a), .slice (some ⟨g, 0, none⟩) N N], .agg #[.int .i64 a, .int .i64 b, .int .i64 c, .int .i64 d], .int .i64 x, .int .i64 y, .slice (some ⟨g1, 0, none⟩) 1 cp] w
      fun e w' => e = .returned (.tuple #[]) ∧ IPix w' g (wrAt bs a b c d x y (v % 256)) ∧ w.grownBy w' (some g) := by
  have kN := area_le h3 h4 h5 h6 hN
  by_cases hin : In a b c d x y
  · obtain ⟨o, ho, hoN⟩ := place_lt hN hin
    rw [wrAt_in hin ho]
    have rd : Rd w w.heap.size (some ⟨g1, 0, none⟩) 1 [v] := by
      refine ⟨rfl, by omega, by simpa using hv, fun _ => ⟨g1, 0, rfl, (Array.getElem?_eq_some_iff.1 hb).1, fun j hj => ?_⟩⟩
      obtain rfl : j = 0 := by omega
      rw [cell_of_row w g1 0 _ _ (0, 0) hb]; rfl
    obtain ⟨i1, i2, i3, i4⟩ := hin
    exact paint_in a b c d a b c d (c - a) x y g N o 1 cp _ bs [v] w ⟨i1, i2, i3, i4⟩ hp hl (by omega) rd (by omega) (fun b' o' h => by injection h with h; injection h with h; omega) (by omega) (by omega) (by omega) (by omega) (by omega) (by omega) (by rw [← ho]; omega) (by omega)
  · rw [wrAt_out hin]
    exact (paint_out _ _ _ _ _ _ a b c d x y _ w hin).mono fun e w' ⟨h, hb⟩ => ⟨h, hp.below hb, ⟨hb.os, hb.tape, hb.output, hb.size, fun i hi _ => hb.block i hi⟩⟩

set_option maxRecDepth 100000 in
theorem sgrayWrite_any (a b c d : Int) (N : Nat) (h3 : 0 ≤ c - a) (h4 : c - a ≤ 1000) (h5 : 0 ≤ d - b) (h6 : d - b ≤ 1000) (hN : (c - a) * (d - b) = N) (n cp : Nat) (Z : Option Addr) (zs : List Int) (x y v : Int) (hv : I64 v) (w : World) (hr : Rd w w.heap.size Z n zs) :
    Calls Try.prog 36 #[.agg #[.int .i64 a, .int .i64 b, .int .i64 c, .int .i64 d], .slice Z n cp, .int .i64 x, .int .i64 y, .int .i64 v] w (PicOut a b c d (c - a) N (wrAt (byt N zs) a b c d x y (v % 256)) w) := by
  have kN := area_le h3 h4 h5 h6 hN
  have HN := Lib.hid hN
  have HR := Lib.hid hr
  clear hN hr
  have b0 : Below w.heap.size w ((w.alloc (.cells #[.int .i64 a, .int .i64 b, .int .i64 c, .int .i64 d] 26)).alloc (.cells #[.int .i64 0, .int .i64 0, .int .i64 0, .int .i64 0, .int .i64 0, .slice none 0 0] 29)) := ((Below.refl _ _).alloc (Nat.le_refl _) _).alloc (by simp) _
  have p6 := Lib.hid (show PBlk ((w.alloc (.cells #[.int .i64 a, .int .i64 b, .int .i64 c, .int .i64 d] 26)).alloc (.cells #[.int .i64 0, .int .i64 0, .int .i64 0, .int .i64 0, .int .i64 0, .slice none 0 0] 29)) (w.heap.size + 1) 0 0 0 0 0 (.slice none 0 0) from heap_new2 w _ _)
  go_enter Try.func36, Try.ntmps36
  go_wp2_with fail
  refine (made_gray a b c d N h3 h4 h5 h6 HN.out n cp Z zs _ ((HR.out.below b0).more b0.size)).mono ?_
  rintro e w1 ⟨g, rfl, hg, hp, b1⟩
  obtain ⟨hc1, _⟩ := bcell b1
  have zg : w.heap.size + 2 ≤ g := by simpa using hg
  have lg := hp.lt
  have bw1 : Below w.heap.size w w1 := b0.trans (b1.mono b0.size)
  have c0 : w1.cell? ⟨w.heap.size, 0, none⟩ = some (.int .i64 a) := by rw [hc1 w.heap.size 0 (by simp; omega)]; simp
  have c1 : w1.cell? ⟨w.heap.size, 1, none⟩ = some (.int .i64 b) := by rw [hc1 w.heap.size 1 (by simp; omega)]; simp
  have c2 : w1.cell? ⟨w.heap.size, 2, none⟩ = some (.int .i64 c) := by rw [hc1 w.heap.size 2 (by simp; omega)]; simp
  have c3 : w1.cell? ⟨w.heap.size, 3, none⟩ = some (.int .i64 d) := by rw [hc1 w.heap.size 3 (by simp; omega)]; simp
  have P6 := Lib.hid (show PBlk w1 (w.heap.size + 1) 0 0 0 0 0 (.slice none 0 0) from (b1.block _ (by simp)).trans p6.out)
  have HP := Lib.hid hp
  have n1 : w.heap.size < w1.heap.size := by omega
  clear hp p6 b1 hc1 hg b0
  go_wp2_with fail
  have HP2 := Lib.hid (show IPix ((w1.alloc (.cells #[.int .i64 a, .int .i64 b, .int .i64 c, .int .i64 d, .int .i64 (c - a), .slice (some ⟨g, 0, none⟩) N N] 29)).alloc (.cells #[.int .i64 v] 3)) g (byt N zs) from HP.out.below (((Below.refl _ _).alloc (Nat.le_refl _) _).alloc (by simp) _))
  refine (paint_gray x y v g (w1.heap.size + 1) 1 a b c d N h3 h4 h5 h6 HN.out (byt N zs) _ HP2.out (byt_length _ _) hv (heap_new2 w1 _ _) (by omega)).mono ?_
  rintro e w2 ⟨rfl, hp2, hg2⟩
  have l1 : w.heap.size + 1 < w1.heap.size := P6.out.lt
  have q6 : PBlk w2 (w.heap.size + 1) 0 0 0 0 0 (.slice none 0 0) := (hg2.block _ (by simp; omega) (by intro e; injection e with e; omega)).trans (((Below.heap_alloc _ _ _ (by simp; omega)).trans (Below.heap_alloc _ _ _ l1)).trans P6.out)
  have q7 : PBlk w2 w1.heap.size a b c d (c - a) (.slice (some ⟨g, 0, none⟩) N N) := (hg2.block _ (by simp; omega) (by intro e; injection e with e; omega)).trans ((Below.heap_alloc _ _ _ (by simp)).trans (heap_alloc_new w1 _))
  have bw2 : Below w.heap.size w w2 := ((bw1.alloc bw1.size _).alloc (by have := bw1.size; simp; omega) _).grown hg2 (by have := bw1.size; simp; omega) (by intro k hk; injection hk with hk; omega)
  obtain ⟨s0, s1, s2, s3, s4, s5⟩ := q6.cell
  obtain ⟨t0, t1, t2, t3, t4, t5⟩ := q7.cell
  have g0 := q6.free 0
  have g1 := q6.free 1
  have g2 := q6.free 2
  have g3 := q6.free 3
  have g4 := q6.free 4
  have g5 := q6.free 5
  have HP3 := Lib.hid hp2
  have BW := Lib.hid bw2
  clear hp2 hg2 q6 q7 c0 c1 c2 c3 bw2 bw1 HP2 P6
  go_wp2
  refine bodyPost_ret (v := .agg #[.int .i64 a, .int .i64 b, .int .i64 c, .int .i64 d, .int .i64 (c - a), .slice (some ⟨g, 0, none⟩) N N]) (by simp [results, Try.results36, go_sem, s0, s1, s2, s3, s4, s5]) rfl ?_
  exact (made_set HP3.out (by omega) (by omega) BW.out (by omega)).pic (by rw [wrAt_length, byt_length]) (by omega)

end Go.Proofs.Ytpijljokcoocpaa

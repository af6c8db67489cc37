/-
  Contracts: reads and writes of an NRGBA image at a point that is there. No condition.
-/
import Derived.Test.YtkhofahobcegiaaN5
namespace Go.Proofs.Ytkhofahobcegiaa
open Go.ChangeShapes Go.WideShapes Go.ChangeAt Go.RowKit
set_option linter.unusedVariables false
set_option linter.unusedSimpArgs false

set_option maxRecDepth 100000 in
theorem nrgbaAt_in (gp gb off o len : Nat) (x y st a b c d : Int) (bs : List Int) (w : World) (hi : Img w gp gb off len st a b c d) (hp : Pix w gb bs) (hin : In a b c d x y)
    (h2 : d - b ≤ 1000) (h4 : c - a ≤ 1000) (h5 : 0 ≤ st) (h6 : st ≤ 4000) (ho : (y - b) * st + (x - a) * 4 = o) (hol : o + 4 ≤ len) (hlen : off + len = bs.length) (hl4 : len ≤ 4000000) :
    Calls Try.prog 53 #[.pointer (some ⟨gp, 0, none⟩), .int .i64 x, .int .i64 y] w fun e w' => e = .returned (.agg #[.int .u8 (bs.getD (off + o) 0), .int .u8 (bs.getD (off + o + 1) 0), .int .u8 (bs.getD (off + o + 2) 0), .int .u8 (bs.getD (off + o + 3) 0)]) ∧ Below w.heap.size w w' := by
  have hlt := hi.lt
  have hgb := hp.lt
  obtain ⟨r0, r1, r2, r3, r4, r5⟩ := hi.cells
  have x1 := hp.cell (i := off + o) (by omega)
  have x2 := hp.cell (i := off + o + 1) (by omega)
  have x3 := hp.cell (i := off + o + 2) (by omega)
  have x4 := hp.cell (i := off + o + 3) (by omega)
  have HIN := Lib.hid hin
  have HO := Lib.hid ho
  generalize bs.getD (off + o) 0 = z1 at x1
  generalize bs.getD (off + o + 1) 0 = z2 at x2
  generalize bs.getD (off + o + 2) 0 = z3 at x3
  generalize bs.getD (off + o + 3) 0 = z4 at x4
  clear hi hp hin ho hlen
  go_enter Try.func53, Try.ntmps53
  go_wp2_with fail
  refine (in_yes _ _ _ _ _ _ HIN.out _).mono ?_
  rintro e w1 ⟨rfl, b1⟩
  have bw : Below w.heap.size w w1 := Go.Proofs.Ytkhofahobcegiaa.bs b1 (bsa (Below.refl _ _))
  have q0 := (bw.cell (p := ⟨gp, 0, none⟩) hlt).trans r0
  have q1 := (bw.cell (p := ⟨gp, 1, none⟩) hlt).trans r1
  have q2 := (bw.cell (p := ⟨gp, 2, none⟩) hlt).trans r2
  have q3 := (bw.cell (p := ⟨gp, 3, none⟩) hlt).trans r3
  have y1 := (bw.cell (p := ⟨gb, off + o, none⟩) hgb).trans x1
  have y2 := (bw.cell (p := ⟨gb, off + o + 1, none⟩) hgb).trans x2
  have y3 := (bw.cell (p := ⟨gb, off + o + 2, none⟩) hgb).trans x3
  have y4 := (bw.cell (p := ⟨gb, off + o + 3, none⟩) hgb).trans x4
  have kr := bk b1 (heap_alloc_new w _)
  clear r0 r1 r2 r3 r4 r5 x1 x2 x3 x4 b1
  obtain ⟨u1, u2, u3, u4⟩ := HIN.out
  go_wp2_with fail
  refine (pixoff_in gp o x y st a b _ q1 q2 q3 (by omega) (by omega) (by omega) (by omega) h5 h6 HO.out).mono ?_
  rintro e w2 ⟨rfl, k, rfl⟩
  obtain ⟨⟨s0, s1, s2, s3⟩, g0, g1, g2, g3⟩ := q4c kr
  have hoI : (o : Int) < (len : Int) := by omega
  have hoN : ¬ len = o := by omega
  have hoL : o ≤ len := by omega
  have hoM : (o : Int) ≤ (len : Int) := by omega
  have hoP : (o : Int) + 4 ≤ (len : Int) := by omega
  have hoT : ((o : Int) + 4).toNat = o + 4 := by omega
  have hoS : o + 4 - o = 4 := by omega
  have e1 : IntKind.i64.wrap ((o : Int) + 4) = (o : Int) + 4 := IntWalk.i64_in _ ⟨by omega, by omega⟩
  go_wp2_with fail
  refine region_tail 13 (by kernel_rfl) (by kernel_rfl) ?_
  simp only [List.take_succ_cons, List.take_zero, List.drop_succ_cons, List.drop_zero]
  repeat still_step
  refine wpStill_nil ?_
  go_wp2
  exact bodyPost_ret (v := .agg #[.int .u8 z1, .int .u8 z2, .int .u8 z3, .int .u8 z4]) (by simp [results, Try.results53, go_sem, s0, s1, s2, s3]) rfl ⟨rfl, bss (Nat.le_refl _) (bss (Nat.le_refl _) (bss (Nat.le_refl _) (bss (Nat.le_refl _) (below_drewN bw (k + 1)))))⟩

theorem grown_set4 {w w1 : World} {g i1 i2 i3 i4 : Nat} {u1 u2 u3 u4 : Value} (bw : Below w.heap.size w w1) : w.grownBy ((((w1.setCell ⟨g, i1, none⟩ u1).setCell ⟨g, i2, none⟩ u2).setCell ⟨g, i3, none⟩ u3).setCell ⟨g, i4, none⟩ u4) (some g) :=
  ⟨bw.os, bw.tape, bw.output, by simpa [World.setCell] using bw.size, fun j hj hne => by
    have hn : j ≠ g := by rintro rfl; exact hne rfl
    exact (Below.heap_setCell _ _ _ j hn).trans ((Below.heap_setCell _ _ _ j hn).trans ((Below.heap_setCell _ _ _ j hn).trans ((Below.heap_setCell _ _ _ j hn).trans (bw.block j hj))))⟩

set_option maxRecDepth 100000 in
theorem setNRGBA_in (gp gb off o len : Nat) (x y st a b c d z1 z2 z3 z4 : Int) (bs : List Int) (w : World) (hi : Img w gp gb off len st a b c d) (hp : Pix w gb bs) (hin : In a b c d x y) (hz1 : 0 ≤ z1 ∧ z1 ≤ 255) (hz2 : 0 ≤ z2 ∧ z2 ≤ 255) (hz3 : 0 ≤ z3 ∧ z3 ≤ 255) (hz4 : 0 ≤ z4 ∧ z4 ≤ 255)
    (h2 : d - b ≤ 1000) (h4 : c - a ≤ 1000) (h5 : 0 ≤ st) (h6 : st ≤ 4000) (ho : (y - b) * st + (x - a) * 4 = o) (hol : o + 4 ≤ len) (hlen : off + len = bs.length) (hl4 : len ≤ 4000000) :
    Calls Try.prog 50 #[.pointer (some ⟨gp, 0, none⟩), .int .i64 x, .int .i64 y, .agg #[.int .u8 z1, .int .u8 z2, .int .u8 z3, .int .u8 z4]] w fun e w' => e = .returned (.tuple #[]) ∧ Pix w' gb ((((bs.set (off + o) z1).set (off + o + 1) z2).set (off + o + 2) z3).set (off + o + 3) z4) ∧ w.grownBy w' (some gb) := by
  have hlt := hi.lt
  have hne : ¬ gp = gb := hi.ne hp
  have hne1 : ¬ gb = gp := fun h => hne h.symm
  have hne2 : ¬ w.heap.size = gb := by have := hp.lt; omega
  have hne3 : ¬ gb = w.heap.size := fun h => hne2 h.symm
  have hgb := hp.lt
  obtain ⟨r0, r1, r2, r3, r4, r5⟩ := hi.cells
  have x1 := hp.cell (i := off + o) (by omega)
  have x2 := hp.cell (i := off + o + 1) (by omega)
  have x3 := hp.cell (i := off + o + 2) (by omega)
  have x4 := hp.cell (i := off + o + 3) (by omega)
  have HIN := Lib.hid hin
  have HO := Lib.hid ho
  have HP := Lib.hid hp
  have HZ := Lib.hid (show _ from And.intro hz1 (And.intro hz2 (And.intro hz3 hz4)))
  generalize bs.getD (off + o) 0 = v1 at x1
  generalize bs.getD (off + o + 1) 0 = v2 at x2
  generalize bs.getD (off + o + 2) 0 = v3 at x3
  generalize bs.getD (off + o + 3) 0 = v4 at x4
  clear hi hp hin ho hlen hz1 hz2 hz3 hz4
  go_enter Try.func50, Try.ntmps50
  go_wp2_with fail
  refine (in_yes _ _ _ _ _ _ HIN.out _).mono ?_
  rintro e w1 ⟨rfl, b1⟩
  have bw : Below w.heap.size w w1 := Go.Proofs.Ytkhofahobcegiaa.bs b1 (bsa (Below.refl _ _))
  have q0 := (bw.cell (p := ⟨gp, 0, none⟩) hlt).trans r0
  have q1 := (bw.cell (p := ⟨gp, 1, none⟩) hlt).trans r1
  have q2 := (bw.cell (p := ⟨gp, 2, none⟩) hlt).trans r2
  have q3 := (bw.cell (p := ⟨gp, 3, none⟩) hlt).trans r3
  have y1 := (bw.cell (p := ⟨gb, off + o, none⟩) hgb).trans x1
  have y2 := (bw.cell (p := ⟨gb, off + o + 1, none⟩) hgb).trans x2
  have y3 := (bw.cell (p := ⟨gb, off + o + 2, none⟩) hgb).trans x3
  have y4 := (bw.cell (p := ⟨gb, off + o + 3, none⟩) hgb).trans x4
  have HP1 := Lib.hid (HP.out.below bw)
  have f1 : w1.frozen? ⟨gb, off + o, none⟩ = false := HP1.out.free _
  have f2 : w1.frozen? ⟨gb, off + o + 1, none⟩ = false := HP1.out.free _
  have f3 : w1.frozen? ⟨gb, off + o + 2, none⟩ = false := HP1.out.free _
  have f4 : w1.frozen? ⟨gb, off + o + 3, none⟩ = false := HP1.out.free _
  obtain ⟨⟨s0, s1, s2, s3⟩, _⟩ := q4c (bk b1 (heap_alloc_new w _))
  clear r0 r1 r2 r3 r4 r5 x1 x2 x3 x4 b1 HP
  obtain ⟨u1, u2, u3, u4⟩ := HIN.out
  go_wp2_with fail
  refine (pixoff_in gp o x y st a b _ q1 q2 q3 (by omega) (by omega) (by omega) (by omega) h5 h6 HO.out).mono ?_
  rintro e w2 ⟨rfl, k, rfl⟩
  have hoI : (o : Int) < (len : Int) := by omega
  have hoN : ¬ len = o := by omega
  have hoL : o ≤ len := by omega
  have hoM : (o : Int) ≤ (len : Int) := by omega
  have hoP : (o : Int) + 4 ≤ (len : Int) := by omega
  have hoT : ((o : Int) + 4).toNat = o + 4 := by omega
  have hoS : o + 4 - o = 4 := by omega
  go_wp2
  go_end0
  obtain ⟨⟨a1, a2⟩, ⟨a3, a4⟩, ⟨a5, a6⟩, ⟨a7, a8⟩⟩ := HZ.out
  have p0 : Pix (w1.drewN k) gb bs := HP1.out
  exact ⟨rfl, (((p0.set (off + o) z1 a1 a2).set (off + o + 1) z2 a3 a4).set (off + o + 2) z3 a5 a6).set (off + o + 3) z4 a7 a8, grown_set4 (below_drewN bw k)⟩

end Go.Proofs.Ytkhofahobcegiaa

/-
  Contracts of the reference's functions on NRGBA images. No condition.
-/
import Derived.Test.YtpllecddmpdaiaaNS2
import Derived.Test.YtpllecddmpdaiaaN8
namespace Go.Proofs.Ytpllecddmpdaiaa
open Go.ChangeShapes Go.WideShapes Go.ChangeAt Go.RowKit
set_option linter.unusedVariables false
set_option linter.unusedSimpArgs false

theorem made_nrgba (a b c d : Int) (N : Nat) (h3 : 0 ≤ c - a) (h4 : c - a ≤ 1000) (h5 : 0 ≤ d - b) (h6 : d - b ≤ 1000) (hN : 4 * (c - a) * (d - b) = N) (n cp : Nat) (Z : Option Addr) (zs : List Int) (w : World) (hr : Rd w w.heap.size Z n zs) :
    Calls Try.prog 16 #[.agg #[.int .i64 a, .int .i64 b, .int .i64 c, .int .i64 d], .int .i64 4, .slice Z n cp] w (MadeOut a b c d (4 * (c - a)) N (byt N zs) w) := by
  obtain ⟨M, hM⟩ : ∃ M : Nat, (c - a) * (d - b) = M := ⟨((c - a) * (d - b)).toNat, by have := Int.mul_nonneg h3 h5; omega⟩
  exact made_any a b c d 4 (4 * (c - a)) M N n cp Z zs (by omega) (by omega) h3 h4 h5 h6 hM (by rw [← hM, ← hN, Int.mul_comm _ 4, Int.mul_assoc]) (Int.mul_comm _ _) w hr

set_option maxRecDepth 100000 in
theorem spixel_any (a b c d st x y : Int) (g N o : Nat) (bs : List Int) (w : World) (hp : IPix w g bs) (hl : bs.length = N) (hN : N ≤ 4000000) (h1 : 0 ≤ y - b) (h2 : y - b ≤ 1000) (h3 : 0 ≤ x - a) (h4 : x - a ≤ 1000) (h5 : 0 ≤ st) (h6 : st ≤ 4000) (ho : (y - b) * st + (x - a) * 4 = o) (hoN : o + 4 ≤ N) :
    Calls Try.prog 15 #[.agg #[.int .i64 a, .int .i64 b, .int .i64 c, .int .i64 d, .int .i64 st, .slice (some ⟨g, 0, none⟩) N N], .int .i64 x, .int .i64 y] w
      fun e w' => e = .returned (.agg #[.int .i64 (px bs o).a, .int .i64 (px bs o).b, .int .i64 (px bs o).c, .int .i64 (px bs o).d]) ∧ Below w.heap.size w w' := by
  have HO := Lib.hid ho
  have lg := hp.lt
  have HP := Lib.hid hp
  have HL := Lib.hid hl
  clear ho hp hl
  have b0 : Below w.heap.size w ((w.alloc (.cells #[.int .i64 a, .int .i64 b, .int .i64 c, .int .i64 d, .int .i64 st, .slice (some ⟨g, 0, none⟩) N N] 31)).alloc (.cells #[.int .i64 0, .int .i64 0, .int .i64 0, .int .i64 0] 36)) := bsa (bsa (Below.refl _ _))
  have kp := Lib.hid (show ((w.alloc (.cells #[.int .i64 a, .int .i64 b, .int .i64 c, .int .i64 d, .int .i64 st, .slice (some ⟨g, 0, none⟩) N N] 31)).alloc (.cells #[.int .i64 0, .int .i64 0, .int .i64 0, .int .i64 0] 36)).heap[w.heap.size]? = some (.cells #[.int .i64 a, .int .i64 b, .int .i64 c, .int .i64 d, .int .i64 st, .slice (some ⟨g, 0, none⟩) N N] 31 (0, 0)) from bka (heap_alloc_new w _))
  go_enter Try.func15, Try.ntmps15
  go_wp2_with fail
  refine (place_any _ _ _ _ _ _ _ _ (o : Int) h1 h2 h3 h4 h5 h6 (by omega) (by omega) HO.out _).mono ?_
  rintro e w1 ⟨rfl, b1⟩
  have bw := Go.Proofs.Ytpllecddmpdaiaa.bs b1 b0
  obtain ⟨⟨p0, p1, p2, p3, p4, p5⟩, _⟩ := q6c (bk b1 kp.out)
  obtain ⟨⟨s0, s1, s2, s3⟩, g0, g1, g2, g3⟩ := q4c (bk b1 (heap_new2 w _ _))
  have HP1 := Lib.hid (HP.out.below bw)
  have x1 := HP1.out.cell (i := o) (by rw [HL.out]; omega)
  have x2 := HP1.out.cell (i := o + 1) (by rw [HL.out]; omega)
  have x3 := HP1.out.cell (i := o + 2) (by rw [HL.out]; omega)
  have x4 := HP1.out.cell (i := o + 3) (by rw [HL.out]; omega)
  generalize hz1 : bs.getD o 0 = z1 at x1
  generalize hz2 : bs.getD (o + 1) 0 = z2 at x2
  generalize hz3 : bs.getD (o + 2) 0 = z3 at x3
  generalize hz4 : bs.getD (o + 3) 0 = z4 at x4
  have HZ := Lib.hid (show _ from And.intro hz1 (And.intro hz2 (And.intro hz3 hz4)))
  clear hz1 hz2 hz3 hz4 b1 b0 kp
  have n1 : (o : Int) < (N : Int) := by omega
  have n2 : (o : Int) + 1 < (N : Int) := by omega
  have n3 : (o : Int) + 2 < (N : Int) := by omega
  have n4 : (o : Int) + 3 < (N : Int) := by omega
  have m2 : ((o : Int) + 1).toNat = o + 1 := by omega
  have m3 : ((o : Int) + 2).toNat = o + 2 := by omega
  have m4 : ((o : Int) + 3).toNat = o + 3 := by omega
  have k2 : 0 ≤ (o : Int) + 1 := by omega
  have k3 : 0 ≤ (o : Int) + 2 := by omega
  have k4 : 0 ≤ (o : Int) + 3 := by omega
  have e2 : IntKind.i64.wrap ((o : Int) + 1) = (o : Int) + 1 := IntWalk.i64_in _ ⟨by omega, by omega⟩
  have e3 : IntKind.i64.wrap ((o : Int) + 2) = (o : Int) + 2 := IntWalk.i64_in _ ⟨by omega, by omega⟩
  have e4 : IntKind.i64.wrap ((o : Int) + 3) = (o : Int) + 3 := IntWalk.i64_in _ ⟨by omega, by omega⟩
  go_wp2_with fail
  refine region_tail 24 (by kernel_rfl) (by kernel_rfl) ?_
  simp only [List.take_succ_cons, List.take_zero, List.drop_succ_cons, List.drop_zero]
  repeat still_step
  refine wpStill_nil ?_
  go_wp2
  refine bodyPost_ret (v := .agg #[.int .i64 z1, .int .i64 z2, .int .i64 z3, .int .i64 z4]) (by simp [results, Try.results15, go_sem, s0, s1, s2, s3]) rfl ?_
  refine ⟨?_, bss (Nat.le_succ _) (bss (Nat.le_succ _) (bss (Nat.le_succ _) (bss (Nat.le_succ _) bw.drew)))⟩
  obtain ⟨q1, q2, q3, q4⟩ := HZ.out
  show _ = Ending.returned (.agg #[.int .i64 (bs.getD o 0), .int .i64 (bs.getD (o + 1) 0), .int .i64 (bs.getD (o + 2) 0), .int .i64 (bs.getD (o + 3) 0)])
  rw [q1, q2, q3, q4]

set_option maxRecDepth 100000 in
theorem snrgbaRead_any (a b c d : Int) (N : Nat) (h3 : 0 ≤ c - a) (h4 : c - a ≤ 1000) (h5 : 0 ≤ d - b) (h6 : d - b ≤ 1000) (hN : 4 * (c - a) * (d - b) = N) (n cp : Nat) (Z : Option Addr) (zs : List Int) (x y : Int) (w : World) (hr : Rd w w.heap.size Z n zs) :
    Calls Try.prog 9 #[.agg #[.int .i64 a, .int .i64 b, .int .i64 c, .int .i64 d], .slice Z n cp, .int .i64 x, .int .i64 y] w fun e w' => e = .returned (.agg #[.int .i64 (rdAt (byt N zs) a b c d x y).a, .int .i64 (rdAt (byt N zs) a b c d x y).b, .int .i64 (rdAt (byt N zs) a b c d x y).c, .int .i64 (rdAt (byt N zs) a b c d x y).d]) ∧ Below w.heap.size w w' := by
  have kN := area_le h3 h4 h5 h6 hN
  have HR := Lib.hid hr
  have b0 : Below w.heap.size w ((w.alloc (.cells #[.int .i64 a, .int .i64 b, .int .i64 c, .int .i64 d] 25)).alloc (.cells #[.int .i64 0, .int .i64 0, .int .i64 0, .int .i64 0] 36)) := bsa (bsa (Below.refl _ _))
  have kb := Lib.hid (show ((w.alloc (.cells #[.int .i64 a, .int .i64 b, .int .i64 c, .int .i64 d] 25)).alloc (.cells #[.int .i64 0, .int .i64 0, .int .i64 0, .int .i64 0] 36)).heap[w.heap.size]? = some (.cells #[.int .i64 a, .int .i64 b, .int .i64 c, .int .i64 d] 25 (0, 0)) from bka (heap_alloc_new w _))
  by_cases hin : In a b c d x y
  · obtain ⟨o, ho, hoN⟩ := place_lt hN hin
    have ER := Lib.hid (rdAt_in (bs := byt N zs) hin ho)
    have HN := Lib.hid hN
    have HO := Lib.hid ho
    have HIN := Lib.hid hin
    clear hN hr ho hin
    go_enter Try.func9, Try.ntmps9
    go_wp2_with fail
    refine (sHas_yes _ _ _ _ _ _ HIN.out _).mono ?_
    rintro e w1 ⟨rfl, b1⟩
    have bw1 := Go.Proofs.Ytpllecddmpdaiaa.bs b1 b0
    obtain ⟨⟨p0, p1, p2, p3⟩, _⟩ := q4c (bk b1 kb.out)
    have KR := Lib.hid (bk b1 (heap_new2 w _ _))
    clear b1 b0 kb
    go_wp2_with fail
    refine (made_nrgba a b c d N h3 h4 h5 h6 HN.out n cp Z zs _ ((HR.out.below bw1).more bw1.size)).mono ?_
    rintro e w2 ⟨g, rfl, hg, hp, b2⟩
    have bw2 := Go.Proofs.Ytpllecddmpdaiaa.bs b2 bw1
    have KR2 := Lib.hid (bk b2 KR.out)
    have HP := Lib.hid hp
    clear hp b2 p0 p1 p2 p3 KR
    obtain ⟨i1, i2, i3, i4⟩ := HIN.out
    go_wp2_with fail
    refine (spixel_any a b c d (4 * (c - a)) x y g N o (byt N zs) _ HP.out (byt_length _ _) kN (by omega) (by omega) (by omega) (by omega) (by omega) (by omega) HO.out hoN).mono ?_
    rintro e w3 ⟨rfl, b3⟩
    obtain ⟨⟨s0, s1, s2, s3⟩, g0, g1, g2, g3⟩ := q4c (bk b3 KR2.out)
    have bw3 := Go.Proofs.Ytpllecddmpdaiaa.bs b3 bw2
    generalize hq : px (byt N zs) o = q at *
    have HQ := Lib.hid hq
    clear hq
    go_wp2
    refine bodyPost_ret (v := .agg #[.int .i64 q.a, .int .i64 q.b, .int .i64 q.c, .int .i64 q.d]) (by simp [results, Try.results9, go_sem, s0, s1, s2, s3]) rfl ?_
    exact ⟨by rw [ER.out], bss (Nat.le_succ _) (bss (Nat.le_succ _) (bss (Nat.le_succ _) (bss (Nat.le_succ _) bw3)))⟩
  · have ER := Lib.hid (rdAt_out (bs := byt N zs) hin)
    have HIN := Lib.hid hin
    clear hN hr hin
    go_enter Try.func9, Try.ntmps9
    go_wp2_with fail
    refine (sHas_no _ _ _ _ _ _ HIN.out _).mono ?_
    rintro e w1 ⟨rfl, b1⟩
    obtain ⟨⟨s0, s1, s2, s3⟩, g0, g1, g2, g3⟩ := q4c (bk b1 (heap_new2 w _ _))
    have bw1 := Go.Proofs.Ytpllecddmpdaiaa.bs b1 b0
    clear b1 b0
    go_wp2
    refine bodyPost_ret (v := .agg #[.int .i64 0, .int .i64 0, .int .i64 0, .int .i64 0]) (by simp [results, Try.results9, go_sem, s0, s1, s2, s3]) rfl ?_
    exact ⟨by rw [ER.out], bss (Nat.le_succ _) (bss (Nat.le_succ _) (bss (Nat.le_succ _) (bss (Nat.le_succ _) bw1)))⟩

end Go.Proofs.Ytpllecddmpdaiaa

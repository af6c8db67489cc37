/-
  Contracts: a write to an image and a part of an image, through the thin package. No condition.
-/
import Derived.Test.YtpijljokcoocpaaI8
namespace Go.Proofs.Ytpijljokcoocpaa
open Go.ChangeShapes Go.WideShapes Go.ChangeAt Go.RowKit
set_option linter.unusedVariables false
set_option linter.unusedSimpArgs false

/-- The bytes behind a write of z at x, y. -/
noncomputable def wrAt (bs : List Int) (a b c d x y z : Int) : List Int := open Classical in if In a b c d x y then bs.set ((y - b) * (c - a) + (x - a)).toNat z else bs
theorem wrAt_in {bs : List Int} {a b c d x y z : Int} {o : Nat} (h : In a b c d x y) (ho : (y - b) * (c - a) + (x - a) = o) : wrAt bs a b c d x y z = bs.set o z := by
  unfold wrAt; rw [if_pos h, ho]; rfl
theorem wrAt_out {bs : List Int} {a b c d x y z : Int} (h : ¬ In a b c d x y) : wrAt bs a b c d x y z = bs := by unfold wrAt; rw [if_neg h]
theorem wrAt_length (bs : List Int) (a b c d x y z : Int) : (wrAt bs a b c d x y z).length = bs.length := by
  unfold wrAt; split <;> simp

theorem setGray_new (gp gb : Nat) (x y z : Int) (a b c d : Int) (N : Nat) (h3 : 0 ≤ c - a) (h4 : c - a ≤ 1000) (h5 : 0 ≤ d - b) (h6 : d - b ≤ 1000) (hN : (c - a) * (d - b) = N) (bs : List Int) (w : World) (hi : Img w gp gb 0 N (c - a) a b c d) (hp : Pix w gb bs) (hl : bs.length = N) (z0 : 0 ≤ z) (z1 : z ≤ 255) :
    Calls Try.prog 57 #[.pointer (some ⟨gp, 0, none⟩), .int .i64 x, .int .i64 y, .agg #[.int .u8 z]] w fun e w' => e = .returned (.tuple #[]) ∧ Pix w' gb (wrAt bs a b c d x y z) ∧ w.grownBy w' (some gb) := by
  have kN := area_le h3 h4 h5 h6 hN
  by_cases hin : In a b c d x y
  · obtain ⟨o, ho, hoN⟩ := place_lt hN hin
    rw [wrAt_in hin ho]
    have := setGray_in gp gb 0 o N x y (c - a) a b c d z bs w hi hp hin z0 z1 (by omega) (by omega) h3 (by omega) ho hoN (by omega) (by omega)
    rw [Nat.zero_add] at this
    exact this
  · rw [wrAt_out hin]
    obtain ⟨_, _, r2, r3, r4, r5⟩ := hi.cells
    exact (setGray_out gp x y a b c d z w hi.lt r2 r3 r4 r5 hin).mono fun e w' ⟨h, hb⟩ => ⟨h, hp.below hb, ⟨hb.os, hb.tape, hb.output, hb.size, fun i hi _ => hb.block i hi⟩⟩

set_option maxRecDepth 100000 in
theorem grayWrite_any (a b c d : Int) (N : Nat) (h3 : 0 ≤ c - a) (h4 : c - a ≤ 1000) (h5 : 0 ≤ d - b) (h6 : d - b ≤ 1000) (hN : (c - a) * (d - b) = N) (n cp : Nat) (Z : Option Addr) (zs : List Int) (x y v : Int) (w : World) (hr : Rd w w.heap.size Z n zs) :
    Calls Try.prog 35 #[.agg #[.int .i64 a, .int .i64 b, .int .i64 c, .int .i64 d], .slice Z n cp, .int .i64 x, .int .i64 y, .int .i64 v] w (PicOut a b c d (c - a) N (wrAt (byt N zs) a b c d x y (v % 256)) w) := by
  have kN := area_le h3 h4 h5 h6 hN
  have HN := Lib.hid hN
  have HR := Lib.hid hr
  clear hN hr
  have b0 : Below w.heap.size w ((w.alloc (.cells #[.int .i64 a, .int .i64 b, .int .i64 c, .int .i64 d] 26)).alloc (.cells #[.int .i64 0, .int .i64 0, .int .i64 0, .int .i64 0, .int .i64 0, .slice none 0 0] 29)) := ((Below.refl _ _).alloc (Nat.le_refl _) _).alloc (by simp) _
  have p6 := Lib.hid (show PBlk ((w.alloc (.cells #[.int .i64 a, .int .i64 b, .int .i64 c, .int .i64 d] 26)).alloc (.cells #[.int .i64 0, .int .i64 0, .int .i64 0, .int .i64 0, .int .i64 0, .slice none 0 0] 29)) (w.heap.size + 1) 0 0 0 0 0 (.slice none 0 0) from heap_new2 w _ _)
  go_enter Try.func35, Try.ntmps35
  go_wp2_with fail
  refine (inewGray_any a b c d N n cp 0 Z zs h3 h4 h5 h6 HN.out _ ((HR.out.below b0).more b0.size)).mono ?_
  rintro e w1 ⟨gp, gb, rfl, hgp, hgb, hi, hp, b1⟩
  have bw1 : Below w.heap.size w w1 := b0.trans (b1.mono b0.size)
  have hz8 : w.heap.size + 2 ≤ gb := by simpa using hgb
  have hz9 : w.heap.size + 2 ≤ gp := by simpa using hgp
  have P6 := Lib.hid (show PBlk w1 (w.heap.size + 1) 0 0 0 0 0 (.slice none 0 0) from (b1.block _ (by simp)).trans p6.out)
  have HI := Lib.hid hi
  have HP := Lib.hid hp
  clear hi hp b1 b0 p6 hgp hgb
  go_wp2_with fail
  refine (setGray_new gp gb x y (v % 256) a b c d N h3 h4 h5 h6 HN.out (byt N zs) _ HI.out HP.out (byt_length _ _) (by omega) (by omega)).mono ?_
  rintro e w2 ⟨rfl, hp2, hg2⟩
  have bw : Below w.heap.size w w2 := bw1.grown hg2 bw1.size (by intro k hk; injection hk with hk; omega)
  have hne : gp ≠ gb := HI.out.ne HP.out
  have hi2 : Img w2 gp gb 0 N (c - a) a b c d := (hg2.block gp HI.out.lt (by intro e; injection e with e; exact hne e)).trans HI.out
  have P7 := Lib.hid (show PBlk w2 (w.heap.size + 1) 0 0 0 0 0 (.slice none 0 0) from (hg2.block _ P6.out.lt (by intro e; injection e with e; omega)).trans P6.out)
  have lz : w.heap.size + 1 < w2.heap.size := Nat.lt_of_lt_of_le P6.out.lt hg2.size
  obtain ⟨r0, r1, r2, r3, r4, r5⟩ := hi2.cells
  have HP2 := Lib.hid hp2
  clear hi2 hp2 hg2
  go_wp2_with fail
  refine region_tail 12 (by kernel_rfl) (by kernel_rfl) ?_
  simp only [List.take_succ_cons, List.take_zero, List.drop_succ_cons, List.drop_zero]
  repeat still_step
  refine wpStill_nil ?_
  clear r0 r1 r2 r3 r4 r5
  go_wp2_with fail
  refine (picture_any a b c d (c - a) N N (some ⟨gb, 0, none⟩) (wrAt (byt N zs) a b c d x y (v % 256)) w2.drew (by have := HP2.out.rd (off := 0) (n := N) (by rw [wrAt_length, byt_length]; omega) (by omega); rw [List.drop_zero] at this; exact this)).mono ?_
  rintro e w3 ⟨A, cp', rfl, hrd, hlo, hb3⟩
  have p8 : PBlk w3 (w.heap.size + 1) 0 0 0 0 0 (.slice none 0 0) := (hb3.block _ lz).trans P7.out
  obtain ⟨s0, s1, s2, s3, s4, s5⟩ := p8.cell
  have g0 := p8.free 0
  have g1 := p8.free 1
  have g2 := p8.free 2
  have g3 := p8.free 3
  have g4 := p8.free 4
  have g5 := p8.free 5
  have b9 := Lib.hid (bw.drew.trans (hb3.mono bw.size))
  have RD := Lib.hid (show _ from And.intro hrd hlo)
  clear hrd hlo hb3 p8 P7
  go_wp2
  refine bodyPost_ret (v := .agg #[.int .i64 a, .int .i64 b, .int .i64 c, .int .i64 d, .int .i64 (c - a), .slice A N cp']) (by simp [results, Try.results35, go_sem, s0, s1, s2, s3, s4, s5]) rfl ?_
  exact picOut_set RD.out.1 (fun b o h => Nat.lt_of_lt_of_le lz (RD.out.2 b o h)) b9.out (by omega)


end Go.Proofs.Ytpijljokcoocpaa

/-
  Contracts of the thin package's functions on images, but for the scripts. No condition.
-/
import Derived.Test.YtpijljokcoocpaaI7
namespace Go.Proofs.Ytpijljokcoocpaa
open Go.ChangeShapes Go.WideShapes Go.ChangeAt Go.RowKit
set_option linter.unusedVariables false
set_option linter.unusedSimpArgs false

theorem area_le {a b c d : Int} {N : Nat} (h3 : 0 ≤ c - a) (h4 : c - a ≤ 1000) (h5 : 0 ≤ d - b) (h6 : d - b ≤ 1000) (hN : (c - a) * (d - b) = N) : N ≤ 1000000 := by
  have k4 : (c - a) * (d - b) ≤ 1000 * 1000 := Int.mul_le_mul h4 h6 h5 (by decide)
  omega
/-- The place of a point that is there. -/
theorem place_lt {a b c d x y : Int} {N : Nat} (hN : (c - a) * (d - b) = N) (hin : In a b c d x y) : ∃ o : Nat, (y - b) * (c - a) + (x - a) = o ∧ o < N := by
  obtain ⟨h1, h2, h3, h4⟩ := hin
  have k1 : 0 ≤ (y - b) * (c - a) := Int.mul_nonneg (by omega) (by omega)
  have k2 : (y - b) * (c - a) ≤ (d - b - 1) * (c - a) := Int.mul_le_mul_of_nonneg_right (by omega) (by omega)
  have k3 : (d - b - 1) * (c - a) = N - (c - a) := by rw [← hN, Int.mul_comm (c - a), Int.sub_mul, Int.one_mul]
  exact ⟨((y - b) * (c - a) + (x - a)).toNat, by omega, by omega⟩

set_option maxRecDepth 100000 in
theorem grayNew_any (a b c d : Int) (N : Nat) (h3 : 0 ≤ c - a) (h4 : c - a ≤ 1000) (h5 : 0 ≤ d - b) (h6 : d - b ≤ 1000) (hN : (c - a) * (d - b) = N) (w : World) :
    Calls Try.prog 24 #[.agg #[.int .i64 a, .int .i64 b, .int .i64 c, .int .i64 d]] w (PicOut a b c d (c - a) N (List.replicate N 0) w) := by
  have kN := area_le h3 h4 h5 h6 hN
  have HN := Lib.hid hN
  clear hN
  go_enter Try.func24, Try.ntmps24
  go_wp2_with fail
  refine (rectangle4 _ _ _ _ _).mono ?_
  rintro e w1 ⟨rfl, b1⟩
  have hz8 : w.heap.size + 2 ≤ w1.heap.size := by have := b1.size; simpa using this
  have b0 : Below w.heap.size w w1 := (((Below.refl _ _).alloc (Nat.le_refl _) _).alloc (by simp) _).trans (b1.mono (by simp; omega))
  have p6 : PBlk w1 (w.heap.size + 1) 0 0 0 0 0 (.slice none 0 0) := (b1.block _ (by simp)).trans (heap_new2 w _ _)
  have P6 := Lib.hid p6
  clear b1 p6
  go_wp2_with fail
  refine (newGray_any _ _ _ _ N h3 h4 h5 h6 HN.out _).mono ?_
  rintro e w2 ⟨gp, gb, rfl, hgp, hgb, hi, hp, b2⟩
  have bw : Below w.heap.size w w2 := b0.trans (b2.mono b0.size)
  have P7 := Lib.hid (show PBlk w2 (w.heap.size + 1) 0 0 0 0 0 (.slice none 0 0) from (b2.block _ (by omega)).trans P6.out)
  obtain ⟨r0, r1, r2, r3, r4, r5⟩ := hi.cells
  have HP := Lib.hid hp
  clear hi hp
  go_wp2_with fail
  refine region_tail 12 (by kernel_rfl) (by kernel_rfl) ?_
  simp only [List.take_succ_cons, List.take_zero, List.drop_succ_cons, List.drop_zero]
  repeat still_step
  refine wpStill_nil ?_
  clear r0 r1 r2 r3 r4 r5
  go_wp2_with fail
  refine (picture_any a b c d (c - a) N N (some ⟨gb, 0, none⟩) (List.replicate N 0) w2.drew (by have := HP.out.rd (off := 0) (n := N) (by simp) (by omega); rw [List.drop_zero] at this; exact this)).mono ?_
  rintro e w3 ⟨A, cp, rfl, hrd, hlo, hb3⟩
  have lz : w.heap.size + 1 < w2.heap.size := Nat.lt_of_lt_of_le (by omega) b2.size
  have p8 : PBlk w3 (w.heap.size + 1) 0 0 0 0 0 (.slice none 0 0) := (hb3.block _ lz).trans P7.out
  obtain ⟨s0, s1, s2, s3, s4, s5⟩ := p8.cell
  have g0 := p8.free 0
  have g1 := p8.free 1
  have g2 := p8.free 2
  have g3 := p8.free 3
  have g4 := p8.free 4
  have g5 := p8.free 5
  have b9 := Lib.hid (bw.drew.trans (hb3.mono bw.size))
  have RD := Lib.hid (show _ from And.intro hrd hlo)
  clear hrd hlo hb3 p8 P7
  go_wp2
  refine bodyPost_ret (v := .agg #[.int .i64 a, .int .i64 b, .int .i64 c, .int .i64 d, .int .i64 (c - a), .slice A N cp]) (by simp [results, Try.results24, go_sem, s0, s1, s2, s3, s4, s5]) rfl ?_
  exact picOut_set RD.out.1 (fun b o h => Nat.lt_of_lt_of_le lz (RD.out.2 b o h)) b9.out (by omega)


/-- Reading the pixel at x, y: its byte, or 0 outside. -/
noncomputable def rdAt (bs : List Int) (a b c d x y : Int) : Int := open Classical in if In a b c d x y then bs.getD ((y - b) * (c - a) + (x - a)).toNat 0 else 0
theorem rdAt_in {bs : List Int} {a b c d x y : Int} {o : Nat} (h : In a b c d x y) (ho : (y - b) * (c - a) + (x - a) = o) : rdAt bs a b c d x y = bs.getD o 0 := by
  unfold rdAt; rw [if_pos h, ho]; rfl
theorem rdAt_out {bs : List Int} {a b c d x y : Int} (h : ¬ In a b c d x y) : rdAt bs a b c d x y = 0 := by unfold rdAt; rw [if_neg h]

theorem rdAt_byte {bs : List Int} {a b c d x y : Int} (h : ∀ z ∈ bs, 0 ≤ z ∧ z ≤ 255) : 0 ≤ rdAt bs a b c d x y ∧ rdAt bs a b c d x y ≤ 255 := by
  unfold rdAt
  split
  · generalize ((y - b) * (c - a) + (x - a)).toNat = i
    by_cases hi : i < bs.length
    · exact h _ (by simp [List.getD, hi])
    · simp [List.getD, List.getElem?_eq_none (Nat.le_of_not_lt hi)]
  · omega

theorem fld_any (z : Int) (W : World) : (Instr.field 80 (.agg #[.int .u8 z]) 0).run Try.prog W = .ok (.int .u8 z) W := by kernel_rfl
theorem ta_any (z : Int) (W : World) : (Instr.typeAssert (.iface 80 (.agg #[.int .u8 z])) 88 80 false).run Try.prog W = .ok (.agg #[.int .u8 z]) W := by kernel_rfl

theorem grayAt_new (gp gb : Nat) (x y : Int) (a b c d : Int) (N : Nat) (h3 : 0 ≤ c - a) (h4 : c - a ≤ 1000) (h5 : 0 ≤ d - b) (h6 : d - b ≤ 1000) (hN : (c - a) * (d - b) = N) (bs : List Int) (w : World) (hi : Img w gp gb 0 N (c - a) a b c d) (hp : Pix w gb bs) (hl : bs.length = N) :
    Calls Try.prog 52 #[.pointer (some ⟨gp, 0, none⟩), .int .i64 x, .int .i64 y] w fun e w' => e = .returned (.agg #[.int .u8 (rdAt bs a b c d x y)]) ∧ Below w.heap.size w w' := by
  have kN := area_le h3 h4 h5 h6 hN
  by_cases hin : In a b c d x y
  · obtain ⟨o, ho, hoN⟩ := place_lt hN hin
    rw [rdAt_in hin ho]
    have := grayAt_in gp gb 0 o N x y (c - a) a b c d bs w hi hp hin (by omega) (by omega) h3 (by omega) ho hoN (by omega) (by omega)
    rw [Nat.zero_add] at this
    exact this
  · rw [rdAt_out hin]
    obtain ⟨_, _, r2, r3, r4, r5⟩ := hi.cells
    exact grayAt_out gp x y a b c d w hi.lt r2 r3 r4 r5 hin

set_option maxRecDepth 100000 in
theorem grayRead_any (a b c d : Int) (N : Nat) (h3 : 0 ≤ c - a) (h4 : c - a ≤ 1000) (h5 : 0 ≤ d - b) (h6 : d - b ≤ 1000) (hN : (c - a) * (d - b) = N) (n cp : Nat) (Z : Option Addr) (zs : List Int) (x y : Int) (w : World) (hr : Rd w w.heap.size Z n zs) :
    Calls Try.prog 29 #[.agg #[.int .i64 a, .int .i64 b, .int .i64 c, .int .i64 d], .slice Z n cp, .int .i64 x, .int .i64 y] w fun e w' => e = .returned (.int .i64 (rdAt (byt N zs) a b c d x y)) ∧ Below w.heap.size w w' := by
  have kN := area_le h3 h4 h5 h6 hN
  have HN := Lib.hid hN
  have HR := Lib.hid hr
  clear hN hr
  have b0 : Below w.heap.size w (w.alloc (.cells #[.int .i64 a, .int .i64 b, .int .i64 c, .int .i64 d] 26)) := (Below.refl _ _).alloc (Nat.le_refl _) _
  go_enter Try.func29, Try.ntmps29
  go_wp2_with fail
  refine (inewGray_any a b c d N n cp 0 Z zs h3 h4 h5 h6 HN.out _ ((HR.out.below b0).more b0.size)).mono ?_
  rintro e w2 ⟨gp, gb, rfl, hgp, hgb, hi, hp, b2⟩
  have HI := Lib.hid hi
  have HP := Lib.hid hp
  clear hi hp
  go_wp2_with fail
  refine (grayAt_new gp gb x y a b c d N h3 h4 h5 h6 HN.out (byt N zs) _ HI.out HP.out (byt_length _ _)).mono ?_
  rintro e w3 ⟨rfl, b3⟩
  have hz : 0 ≤ rdAt (byt N zs) a b c d x y ∧ rdAt (byt N zs) a b c d x y ≤ 255 := rdAt_byte HP.out.2
  obtain ⟨z1, z2⟩ := hz
  have hfld := fun W : World => fld_any (rdAt (byt N zs) a b c d x y) W
  have hta := fun W : World => ta_any (rdAt (byt N zs) a b c d x y) W
  go_wp2_with fail
  go_ret
  have bw : Below w.heap.size w w2 := b0.trans (b2.mono b0.size)
  exact ⟨rfl, bw.trans (b3.mono bw.size)⟩

set_option maxRecDepth 100000 in
theorem grayColor_any (a b c d : Int) (N : Nat) (h3 : 0 ≤ c - a) (h4 : c - a ≤ 1000) (h5 : 0 ≤ d - b) (h6 : d - b ≤ 1000) (hN : (c - a) * (d - b) = N) (n cp : Nat) (Z : Option Addr) (zs : List Int) (x y : Int) (w : World) (hr : Rd w w.heap.size Z n zs) :
    Calls Try.prog 37 #[.agg #[.int .i64 a, .int .i64 b, .int .i64 c, .int .i64 d], .slice Z n cp, .int .i64 x, .int .i64 y] w fun e w' => e = .returned (.int .i64 (rdAt (byt N zs) a b c d x y)) ∧ Below w.heap.size w w' := by
  have kN := area_le h3 h4 h5 h6 hN
  have HN := Lib.hid hN
  have HR := Lib.hid hr
  clear hN hr
  have b0 : Below w.heap.size w (w.alloc (.cells #[.int .i64 a, .int .i64 b, .int .i64 c, .int .i64 d] 26)) := (Below.refl _ _).alloc (Nat.le_refl _) _
  go_enter Try.func37, Try.ntmps37
  go_wp2_with fail
  refine (inewGray_any a b c d N n cp 0 Z zs h3 h4 h5 h6 HN.out _ ((HR.out.below b0).more b0.size)).mono ?_
  rintro e w2 ⟨gp, gb, rfl, hgp, hgb, hi, hp, b2⟩
  have HI := Lib.hid hi
  have HP := Lib.hid hp
  clear hi hp
  go_wp2_with fail
  refine (at_any _ _ _ _ _ (grayAt_new gp gb x y a b c d N h3 h4 h5 h6 HN.out (byt N zs) _ HI.out HP.out (byt_length _ _))).mono ?_
  rintro e w3 ⟨rfl, b3⟩
  have hz : 0 ≤ rdAt (byt N zs) a b c d x y ∧ rdAt (byt N zs) a b c d x y ≤ 255 := rdAt_byte HP.out.2
  obtain ⟨z1, z2⟩ := hz
  have hfld := fun W : World => fld_any (rdAt (byt N zs) a b c d x y) W
  have hta := fun W : World => ta_any (rdAt (byt N zs) a b c d x y) W
  go_wp2_with fail
  go_ret
  have bw : Below w.heap.size w w2 := b0.trans (b2.mono b0.size)
  exact ⟨rfl, bw.trans (b3.mono bw.size)⟩

theorem grayOpaque_any (a b c d : Int) (N : Nat) (h3 : 0 ≤ c - a) (h4 : c - a ≤ 1000) (h5 : 0 ≤ d - b) (h6 : d - b ≤ 1000) (hN : (c - a) * (d - b) = N) (n cp : Nat) (Z : Option Addr) (zs : List Int) (w : World) (hr : Rd w w.heap.size Z n zs) :
    Calls Try.prog 33 #[.agg #[.int .i64 a, .int .i64 b, .int .i64 c, .int .i64 d], .slice Z n cp] w fun e w' => e = .returned (.bool true) ∧ Below w.heap.size w w' := by
  have HN := Lib.hid hN
  have HR := Lib.hid hr
  clear hN hr
  have b0 : Below w.heap.size w (w.alloc (.cells #[.int .i64 a, .int .i64 b, .int .i64 c, .int .i64 d] 26)) := (Below.refl _ _).alloc (Nat.le_refl _) _
  go_enter Try.func33, Try.ntmps33
  go_wp2_with fail
  refine (inewGray_any a b c d N n cp 0 Z zs h3 h4 h5 h6 HN.out _ ((HR.out.below b0).more b0.size)).mono ?_
  rintro e w2 ⟨gp, gb, rfl, hgp, hgb, hi, hp, b2⟩
  clear hi hp
  go_wp2_with fail
  refine (opaque_any _ _).mono ?_
  rintro e w3 ⟨rfl, rfl⟩
  go_wp2_with fail
  go_ret
  exact ⟨rfl, b0.trans (b2.mono b0.size)⟩

theorem grayOffset_any (a b c d : Int) (N : Nat) (h3 : 0 ≤ c - a) (h4 : c - a ≤ 1000) (h5 : 0 ≤ d - b) (h6 : d - b ≤ 1000) (hN : (c - a) * (d - b) = N) (x y : Int) (o : Nat) (hin : In a b c d x y) (ho : (y - b) * (c - a) + (x - a) = o) (w : World) :
    Calls Try.prog 31 #[.agg #[.int .i64 a, .int .i64 b, .int .i64 c, .int .i64 d], .int .i64 x, .int .i64 y] w fun e w' => e = .returned (.int .i64 o) ∧ Below w.heap.size w w' := by
  have HN := Lib.hid hN
  have HO := Lib.hid ho
  clear hN ho
  obtain ⟨i1, i2, i3, i4⟩ := hin
  have b0 : Below w.heap.size w (w.alloc (.cells #[.int .i64 a, .int .i64 b, .int .i64 c, .int .i64 d] 26)) := (Below.refl _ _).alloc (Nat.le_refl _) _
  go_enter Try.func31, Try.ntmps31
  go_wp2_with fail
  refine (inewGray_any a b c d N 0 0 0 none [] h3 h4 h5 h6 HN.out _ (Rd.nil _ _ _)).mono ?_
  rintro e w2 ⟨gp, gb, rfl, hgp, hgb, hi, hp, b2⟩
  obtain ⟨r0, r1, r2, r3, r4, r5⟩ := hi.cells
  clear hi hp
  go_wp2_with fail
  refine (pixoff_in gp o x y (c - a) a b _ r1 r2 r3 (by omega) (by omega) (by omega) (by omega) h3 (by omega) HO.out).mono ?_
  rintro e w3 ⟨rfl, k, rfl⟩
  go_wp2_with fail
  go_ret
  exact ⟨rfl, below_drewN (b0.trans (b2.mono b0.size)) k⟩

end Go.Proofs.Ytpijljokcoocpaa

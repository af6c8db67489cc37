/-
  Contracts of the thin package's functions on NRGBA images, but for the scripts. No condition.
-/
import Derived.Test.YtkhofahobcegiaaN7
import Derived.Test.YtkhofahobcegiaaNO
namespace Go.Proofs.Ytkhofahobcegiaa
open Go.ChangeShapes Go.WideShapes Go.ChangeAt Go.RowKit
set_option linter.unusedVariables false
set_option linter.unusedSimpArgs false

theorem nrgba_any (q : Q4) (w : World) :
    Calls Try.prog 51 #[q.val] w fun e w' => e = .returned (.agg #[.int .u8 (q.a % 256), .int .u8 (q.b % 256), .int .u8 (q.c % 256), .int .u8 (q.d % 256)]) ∧ Below w.heap.size w w' := by
  obtain ⟨a, b, c, d⟩ := q
  show Calls Try.prog 51 #[.agg #[.int .i64 a, .int .i64 b, .int .i64 c, .int .i64 d]] w _
  go_enter Try.func51, Try.ntmps51
  go_wp2
  exact bodyPost_ret (v := .agg #[.int .u8 (a % 256), .int .u8 (b % 256), .int .u8 (c % 256), .int .u8 (d % 256)]) (by simp [results, Try.results51, go_sem]) rfl ⟨rfl, ((Below.refl _ _).alloc (Nat.le_refl _) _).alloc (by simp) _⟩

theorem nrgba4 (a b c d : Int) (w : World) :
    Calls Try.prog 51 #[.agg #[.int .i64 a, .int .i64 b, .int .i64 c, .int .i64 d]] w fun e w' => e = .returned (.agg #[.int .u8 (a % 256), .int .u8 (b % 256), .int .u8 (c % 256), .int .u8 (d % 256)]) ∧ Below w.heap.size w w' := nrgba_any ⟨a, b, c, d⟩ w

theorem told_any (r g b a : Int) (r1 : 0 ≤ r) (r2 : r ≤ 255) (g1 : 0 ≤ g) (g2 : g ≤ 255) (b1 : 0 ≤ b) (b2 : b ≤ 255) (a1 : 0 ≤ a) (a2 : a ≤ 255) (w : World) :
    Calls Try.prog 52 #[.agg #[.int .u8 r, .int .u8 g, .int .u8 b, .int .u8 a]] w fun e w' => e = .returned (.agg #[.int .i64 r, .int .i64 g, .int .i64 b, .int .i64 a]) ∧ Below w.heap.size w w' := by
  go_enter Try.func52, Try.ntmps52
  go_wp2
  exact bodyPost_ret (v := .agg #[.int .i64 r, .int .i64 g, .int .i64 b, .int .i64 a]) (by simp [results, Try.results52, go_sem]) rfl ⟨rfl, ((Below.refl _ _).alloc (Nat.le_refl _) _).alloc (by simp) _⟩

theorem area_le {a b c d : Int} {N : Nat} (h3 : 0 ≤ c - a) (h4 : c - a ≤ 1000) (h5 : 0 ≤ d - b) (h6 : d - b ≤ 1000) (hN : 4 * (c - a) * (d - b) = N) : N ≤ 4000000 := by
  have k4 : 4 * (c - a) * (d - b) ≤ 4000 * 1000 := Int.mul_le_mul (by omega) h6 h5 (by decide)
  omega
/-- The place of a point that is there. -/
theorem place_lt {a b c d x y : Int} {N : Nat} (hN : 4 * (c - a) * (d - b) = N) (hin : In a b c d x y) : ∃ o : Nat, (y - b) * (4 * (c - a)) + (x - a) * 4 = o ∧ o + 4 ≤ N := by
  obtain ⟨h1, h2, h3, h4⟩ := hin
  have k1 : 0 ≤ (y - b) * (4 * (c - a)) := Int.mul_nonneg (by omega) (by omega)
  have k2 : (y - b) * (4 * (c - a)) ≤ (d - b - 1) * (4 * (c - a)) := Int.mul_le_mul_of_nonneg_right (by omega) (by omega)
  have k3 : (d - b - 1) * (4 * (c - a)) = N - 4 * (c - a) := by rw [← hN, Int.mul_comm (4 * (c - a)), Int.sub_mul, Int.one_mul]
  exact ⟨((y - b) * (4 * (c - a)) + (x - a) * 4).toNat, by omega, by omega⟩

/-- The color of four bytes. -/
def px (bs : List Int) (o : Nat) : Q4 := ⟨bs.getD o 0, bs.getD (o + 1) 0, bs.getD (o + 2) 0, bs.getD (o + 3) 0⟩
/-- Reading the pixel at x, y: its bytes, or zeros outside. -/
noncomputable def rdAt (bs : List Int) (a b c d x y : Int) : Q4 := open Classical in if In a b c d x y then px bs ((y - b) * (4 * (c - a)) + (x - a) * 4).toNat else ⟨0, 0, 0, 0⟩
theorem rdAt_in {bs : List Int} {a b c d x y : Int} {o : Nat} (h : In a b c d x y) (ho : (y - b) * (4 * (c - a)) + (x - a) * 4 = o) : rdAt bs a b c d x y = px bs o := by
  unfold rdAt; rw [if_pos h, ho]; rfl
theorem rdAt_out {bs : List Int} {a b c d x y : Int} (h : ¬ In a b c d x y) : rdAt bs a b c d x y = ⟨0, 0, 0, 0⟩ := by unfold rdAt; rw [if_neg h]
def Q4.byte (q : Q4) : Prop := (0 ≤ q.a ∧ q.a ≤ 255) ∧ (0 ≤ q.b ∧ q.b ≤ 255) ∧ (0 ≤ q.c ∧ q.c ≤ 255) ∧ (0 ≤ q.d ∧ q.d ≤ 255)
theorem getD_byte {bs : List Int} (h : ∀ z ∈ bs, 0 ≤ z ∧ z ≤ 255) (i : Nat) : 0 ≤ bs.getD i 0 ∧ bs.getD i 0 ≤ 255 := by
  by_cases hi : i < bs.length
  · exact h _ (by simp [List.getD, hi])
  · simp [List.getD, List.getElem?_eq_none (Nat.le_of_not_lt hi)]
theorem px_byte {bs : List Int} (h : ∀ z ∈ bs, 0 ≤ z ∧ z ≤ 255) (o : Nat) : (px bs o).byte := ⟨getD_byte h _, getD_byte h _, getD_byte h _, getD_byte h _⟩
theorem rdAt_byte {bs : List Int} {a b c d x y : Int} (h : ∀ z ∈ bs, 0 ≤ z ∧ z ≤ 255) : (rdAt bs a b c d x y).byte := by
  unfold rdAt
  split
  · exact px_byte h _
  · exact ⟨⟨by decide, by decide⟩, ⟨by decide, by decide⟩, ⟨by decide, by decide⟩, ⟨by decide, by decide⟩⟩
/-- Four bytes put at o. -/
def put4 (bs : List Int) (o : Nat) (q : Q4) : List Int := (((bs.set o (q.a % 256)).set (o + 1) (q.b % 256)).set (o + 2) (q.c % 256)).set (o + 3) (q.d % 256)
theorem put4_length (bs : List Int) (o : Nat) (q : Q4) : (put4 bs o q).length = bs.length := by simp [put4]
/-- The bytes behind a write of the color q at x, y. -/
noncomputable def wrAt (bs : List Int) (a b c d x y : Int) (q : Q4) : List Int := open Classical in if In a b c d x y then put4 bs ((y - b) * (4 * (c - a)) + (x - a) * 4).toNat q else bs
theorem wrAt_in {bs : List Int} {a b c d x y : Int} {q : Q4} {o : Nat} (h : In a b c d x y) (ho : (y - b) * (4 * (c - a)) + (x - a) * 4 = o) : wrAt bs a b c d x y q = put4 bs o q := by
  unfold wrAt; rw [if_pos h, ho]; rfl
theorem wrAt_out {bs : List Int} {a b c d x y : Int} {q : Q4} (h : ¬ In a b c d x y) : wrAt bs a b c d x y q = bs := by unfold wrAt; rw [if_neg h]
theorem wrAt_length (bs : List Int) (a b c d x y : Int) (q : Q4) : (wrAt bs a b c d x y q).length = bs.length := by
  unfold wrAt; split
  · exact put4_length _ _ _
  · rfl

theorem nrgbaAt_new (gp gb : Nat) (x y : Int) (a b c d : Int) (N : Nat) (h3 : 0 ≤ c - a) (h4 : c - a ≤ 1000) (h5 : 0 ≤ d - b) (h6 : d - b ≤ 1000) (hN : 4 * (c - a) * (d - b) = N) (bs : List Int) (w : World) (hi : Img w gp gb 0 N (4 * (c - a)) a b c d) (hp : Pix w gb bs) (hl : bs.length = N) :
    Calls Try.prog 53 #[.pointer (some ⟨gp, 0, none⟩), .int .i64 x, .int .i64 y] w fun e w' => e = .returned (.agg #[.int .u8 (rdAt bs a b c d x y).a, .int .u8 (rdAt bs a b c d x y).b, .int .u8 (rdAt bs a b c d x y).c, .int .u8 (rdAt bs a b c d x y).d]) ∧ Below w.heap.size w w' := by
  have kN := area_le h3 h4 h5 h6 hN
  by_cases hin : In a b c d x y
  · obtain ⟨o, ho, hoN⟩ := place_lt hN hin
    rw [rdAt_in hin ho]
    have := nrgbaAt_in gp gb 0 o N x y (4 * (c - a)) a b c d bs w hi hp hin (by omega) (by omega) (by omega) (by omega) ho hoN (by omega) (by omega)
    rw [Nat.zero_add] at this
    exact this
  · rw [rdAt_out hin]
    obtain ⟨_, _, r2, r3, r4, r5⟩ := hi.cells
    exact nrgbaAt_out gp x y a b c d w hi.lt r2 r3 r4 r5 hin

theorem ta_any (r g b a : Int) (W : World) : (Instr.typeAssert (.iface 73 (.agg #[.int .u8 r, .int .u8 g, .int .u8 b, .int .u8 a])) 99 73 false).run Try.prog W = .ok (.agg #[.int .u8 r, .int .u8 g, .int .u8 b, .int .u8 a]) W := by kernel_rfl

set_option maxRecDepth 100000 in
theorem nrgbaNew_any (a b c d : Int) (N : Nat) (h3 : 0 ≤ c - a) (h4 : c - a ≤ 1000) (h5 : 0 ≤ d - b) (h6 : d - b ≤ 1000) (hN : 4 * (c - a) * (d - b) = N) (w : World) :
    Calls Try.prog 32 #[.agg #[.int .i64 a, .int .i64 b, .int .i64 c, .int .i64 d]] w (PicOut a b c d (4 * (c - a)) N (List.replicate N 0) w) := by
  have kN := area_le h3 h4 h5 h6 hN
  have HN := Lib.hid hN
  clear hN
  go_enter Try.func32, Try.ntmps32
  go_wp2_with fail
  refine (rectangle4 _ _ _ _ _).mono ?_
  rintro e w1 ⟨rfl, b1⟩
  have hz8 : w.heap.size + 2 ≤ w1.heap.size := by have := b1.size; simpa using this
  have b0 : Below w.heap.size w w1 := (((Below.refl _ _).alloc (Nat.le_refl _) _).alloc (by simp) _).trans (b1.mono (by simp; omega))
  have p6 : PBlk w1 (w.heap.size + 1) 0 0 0 0 0 (.slice none 0 0) := (b1.block _ (by simp)).trans (heap_new2 w _ _)
  have P6 := Lib.hid p6
  clear b1 p6
  go_wp2_with fail
  refine (newNRGBA_any _ _ _ _ N h3 h4 h5 h6 HN.out _).mono ?_
  rintro e w2 ⟨gp, gb, rfl, hgp, hgb, hi, hp, b2⟩
  have bw : Below w.heap.size w w2 := b0.trans (b2.mono b0.size)
  have P7 := Lib.hid (show PBlk w2 (w.heap.size + 1) 0 0 0 0 0 (.slice none 0 0) from (b2.block _ (by omega)).trans P6.out)
  obtain ⟨r0, r1, r2, r3, r4, r5⟩ := hi.cells
  have HP := Lib.hid hp
  clear hi hp
  go_wp2_with fail
  refine region_tail 12 (by kernel_rfl) (by kernel_rfl) ?_
  simp only [List.take_succ_cons, List.take_zero, List.drop_succ_cons, List.drop_zero]
  repeat still_step
  refine wpStill_nil ?_
  clear r0 r1 r2 r3 r4 r5
  go_wp2_with fail
  refine (picture_any a b c d (4 * (c - a)) N N (some ⟨gb, 0, none⟩) (List.replicate N 0) w2.drew (by have := HP.out.rd (off := 0) (n := N) (by simp) (by omega); rw [List.drop_zero] at this; exact this)).mono ?_
  rintro e w3 ⟨A, cp, rfl, hrd, hlo, hb3⟩
  have lz : w.heap.size + 1 < w2.heap.size := Nat.lt_of_lt_of_le (by omega) b2.size
  have p8 : PBlk w3 (w.heap.size + 1) 0 0 0 0 0 (.slice none 0 0) := (hb3.block _ lz).trans P7.out
  obtain ⟨s0, s1, s2, s3, s4, s5⟩ := p8.cell
  have g0 := p8.free 0
  have g1 := p8.free 1
  have g2 := p8.free 2
  have g3 := p8.free 3
  have g4 := p8.free 4
  have g5 := p8.free 5
  have b9 := Lib.hid (bw.drew.trans (hb3.mono bw.size))
  have RD := Lib.hid (show _ from And.intro hrd hlo)
  clear hrd hlo hb3 p8 P7
  go_wp2
  refine bodyPost_ret (v := .agg #[.int .i64 a, .int .i64 b, .int .i64 c, .int .i64 d, .int .i64 (4 * (c - a)), .slice A N cp]) (by simp [results, Try.results32, go_sem, s0, s1, s2, s3, s4, s5]) rfl ?_
  exact picOut_set RD.out.1 (fun b o h => Nat.lt_of_lt_of_le lz (RD.out.2 b o h)) b9.out (by omega)



set_option maxRecDepth 100000 in
theorem nrgbaRead_any (a b c d : Int) (N : Nat) (h3 : 0 ≤ c - a) (h4 : c - a ≤ 1000) (h5 : 0 ≤ d - b) (h6 : d - b ≤ 1000) (hN : 4 * (c - a) * (d - b) = N) (n cp : Nat) (Z : Option Addr) (zs : List Int) (x y : Int) (w : World) (hr : Rd w w.heap.size Z n zs) :
    Calls Try.prog 27 #[.agg #[.int .i64 a, .int .i64 b, .int .i64 c, .int .i64 d], .slice Z n cp, .int .i64 x, .int .i64 y] w fun e w' => e = .returned (.agg #[.int .i64 (rdAt (byt N zs) a b c d x y).a, .int .i64 (rdAt (byt N zs) a b c d x y).b, .int .i64 (rdAt (byt N zs) a b c d x y).c, .int .i64 (rdAt (byt N zs) a b c d x y).d]) ∧ Below w.heap.size w w' := by
  have kN := area_le h3 h4 h5 h6 hN
  have HN := Lib.hid hN
  have HR := Lib.hid hr
  have hta := ta_any
  clear hN hr
  have b0 : Below w.heap.size w ((w.alloc (.cells #[.int .i64 a, .int .i64 b, .int .i64 c, .int .i64 d] 25)).alloc (.cells #[.int .i64 0, .int .i64 0, .int .i64 0, .int .i64 0] 32)) := bsa (bsa (Below.refl _ _))
  go_enter Try.func27, Try.ntmps27
  go_wp2_with fail
  refine (inewNRGBA_any a b c d N n cp 0 Z zs h3 h4 h5 h6 HN.out _ ((HR.out.below b0).more b0.size)).mono ?_
  rintro e w2 ⟨gp, gb, rfl, hgp, hgb, hi, hp, b2⟩
  have KR := Lib.hid (bk b2 (heap_new2 w _ _))
  have bw := Go.Proofs.Ytkhofahobcegiaa.bs b2 b0
  have HI := Lib.hid hi
  have HP := Lib.hid hp
  clear hi hp b2 b0
  go_wp2_with fail
  refine (nrgbaAt_new gp gb x y a b c d N h3 h4 h5 h6 HN.out (byt N zs) _ HI.out HP.out (byt_length _ _)).mono ?_
  rintro e w3 ⟨rfl, b3⟩
  obtain ⟨⟨z1, z2⟩, ⟨z3, z4⟩, ⟨z5, z6⟩, ⟨z7, z8⟩⟩ : (rdAt (byt N zs) a b c d x y).byte := rdAt_byte HP.out.2
  have bw3 := Go.Proofs.Ytkhofahobcegiaa.bs b3 bw
  go_wp2_with fail
  refine (told_any _ _ _ _ z1 z2 z3 z4 z5 z6 z7 z8 _).mono ?_
  rintro e w4 ⟨rfl, b4⟩
  obtain ⟨⟨s0, s1, s2, s3⟩, g0, g1, g2, g3⟩ := q4c (bk b4 (bk b3 KR.out))
  generalize hq : rdAt (byt N zs) a b c d x y = q at *
  go_wp2
  refine bodyPost_ret (v := .agg #[.int .i64 q.a, .int .i64 q.b, .int .i64 q.c, .int .i64 q.d]) (by simp [results, Try.results27, go_sem, s0, s1, s2, s3]) rfl ?_
  exact ⟨by rw [hq], bss (Nat.le_succ _) (bss (Nat.le_succ _) (bss (Nat.le_succ _) (bss (Nat.le_succ _) (Go.Proofs.Ytkhofahobcegiaa.bs b4 bw3))))⟩

set_option maxRecDepth 100000 in
theorem nrgbaColor_any (a b c d : Int) (N : Nat) (h3 : 0 ≤ c - a) (h4 : c - a ≤ 1000) (h5 : 0 ≤ d - b) (h6 : d - b ≤ 1000) (hN : 4 * (c - a) * (d - b) = N) (n cp : Nat) (Z : Option Addr) (zs : List Int) (x y : Int) (w : World) (hr : Rd w w.heap.size Z n zs) :
    Calls Try.prog 42 #[.agg #[.int .i64 a, .int .i64 b, .int .i64 c, .int .i64 d], .slice Z n cp, .int .i64 x, .int .i64 y] w fun e w' => e = .returned (.agg #[.int .i64 (rdAt (byt N zs) a b c d x y).a, .int .i64 (rdAt (byt N zs) a b c d x y).b, .int .i64 (rdAt (byt N zs) a b c d x y).c, .int .i64 (rdAt (byt N zs) a b c d x y).d]) ∧ Below w.heap.size w w' := by
  have kN := area_le h3 h4 h5 h6 hN
  have HN := Lib.hid hN
  have HR := Lib.hid hr
  have hta := ta_any
  clear hN hr
  have b0 : Below w.heap.size w ((w.alloc (.cells #[.int .i64 a, .int .i64 b, .int .i64 c, .int .i64 d] 25)).alloc (.cells #[.int .i64 0, .int .i64 0, .int .i64 0, .int .i64 0] 32)) := bsa (bsa (Below.refl _ _))
  go_enter Try.func42, Try.ntmps42
  go_wp2_with fail
  refine (inewNRGBA_any a b c d N n cp 0 Z zs h3 h4 h5 h6 HN.out _ ((HR.out.below b0).more b0.size)).mono ?_
  rintro e w2 ⟨gp, gb, rfl, hgp, hgb, hi, hp, b2⟩
  have KR := Lib.hid (bk b2 (heap_new2 w _ _))
  have bw := Go.Proofs.Ytkhofahobcegiaa.bs b2 b0
  have HI := Lib.hid hi
  have HP := Lib.hid hp
  clear hi hp b2 b0
  go_wp2_with fail
  refine (at_any _ _ _ _ _ _ _ _ (nrgbaAt_new gp gb x y a b c d N h3 h4 h5 h6 HN.out (byt N zs) _ HI.out HP.out (byt_length _ _))).mono ?_
  rintro e w3 ⟨rfl, b3⟩
  obtain ⟨⟨z1, z2⟩, ⟨z3, z4⟩, ⟨z5, z6⟩, ⟨z7, z8⟩⟩ : (rdAt (byt N zs) a b c d x y).byte := rdAt_byte HP.out.2
  have bw3 := Go.Proofs.Ytkhofahobcegiaa.bs b3 bw
  go_wp2_with fail
  refine (told_any _ _ _ _ z1 z2 z3 z4 z5 z6 z7 z8 _).mono ?_
  rintro e w4 ⟨rfl, b4⟩
  obtain ⟨⟨s0, s1, s2, s3⟩, g0, g1, g2, g3⟩ := q4c (bk b4 (bk b3 KR.out))
  generalize hq : rdAt (byt N zs) a b c d x y = q at *
  go_wp2
  refine bodyPost_ret (v := .agg #[.int .i64 q.a, .int .i64 q.b, .int .i64 q.c, .int .i64 q.d]) (by simp [results, Try.results42, go_sem, s0, s1, s2, s3]) rfl ?_
  exact ⟨by rw [hq], bss (Nat.le_succ _) (bss (Nat.le_succ _) (bss (Nat.le_succ _) (bss (Nat.le_succ _) (Go.Proofs.Ytkhofahobcegiaa.bs b4 bw3))))⟩

theorem nrgbaOpaque_any (a b c d : Int) (N : Nat) (h3 : 0 ≤ c - a) (h4 : c - a ≤ 1000) (h5 : 0 ≤ d - b) (h6 : d - b ≤ 1000) (hN : 4 * (c - a) * (d - b) = N) (W H : Nat) (hW : c - a = W) (hH : d - b = H) (b1 : -4611686018427387904 ≤ b) (b2 : d ≤ 4611686018427387904) (n cp : Nat) (Z : Option Addr) (zs : List Int) (w : World) (hr : Rd w w.heap.size Z n zs) :
    Calls Try.prog 40 #[.agg #[.int .i64 a, .int .i64 b, .int .i64 c, .int .i64 d], .slice Z n cp] w fun e w' => e = .returned (.bool (opqB (byt N zs) (W * H))) ∧ Below w.heap.size w w' := by
  have HN := Lib.hid hN
  have HR := Lib.hid hr
  have HWH := Lib.hid (show _ from And.intro hW hH)
  have HM := Lib.hid (show N = 4 * (W * H) by
    have e : ((4 * (W * H) : Nat) : Int) = N := by rw [← hN, hW, hH]; push_cast; rw [Int.mul_assoc]
    omega)
  clear hN hr hW hH
  have b0 : Below w.heap.size w (w.alloc (.cells #[.int .i64 a, .int .i64 b, .int .i64 c, .int .i64 d] 25)) := bsa (Below.refl _ _)
  go_enter Try.func40, Try.ntmps40
  go_wp2_with fail
  refine (inewNRGBA_any a b c d N n cp 0 Z zs h3 h4 h5 h6 HN.out _ ((HR.out.below b0).more b0.size)).mono ?_
  rintro e w2 ⟨gp, gb, rfl, hgp, hgb, hi, hp, c2⟩
  have HI := Lib.hid hi
  have HP := Lib.hid hp
  clear hi hp
  go_wp2_with fail
  refine (opaqueN_any gp gb W H N (4 * (c - a)) a b c d (byt N zs) _ HI.out HP.out (byt_length _ _) HWH.out.1 HWH.out.2 HM.out (by have := HWH.out.1; omega) (by have := HWH.out.1; omega) (by have := HWH.out.1; omega) (by have := HWH.out.2; omega) b1 b2).mono ?_
  rintro e w3 ⟨rfl, c3⟩
  go_wp2_with fail
  go_ret
  exact ⟨rfl, Go.Proofs.Ytkhofahobcegiaa.bs c3 (Go.Proofs.Ytkhofahobcegiaa.bs c2 b0)⟩

theorem nrgbaOffset_any (a b c d : Int) (N : Nat) (h3 : 0 ≤ c - a) (h4 : c - a ≤ 1000) (h5 : 0 ≤ d - b) (h6 : d - b ≤ 1000) (hN : 4 * (c - a) * (d - b) = N) (x y : Int) (o : Nat) (hin : In a b c d x y) (ho : (y - b) * (4 * (c - a)) + (x - a) * 4 = o) (w : World) :
    Calls Try.prog 36 #[.agg #[.int .i64 a, .int .i64 b, .int .i64 c, .int .i64 d], .int .i64 x, .int .i64 y] w fun e w' => e = .returned (.int .i64 o) ∧ Below w.heap.size w w' := by
  have HN := Lib.hid hN
  have HO := Lib.hid ho
  clear hN ho
  obtain ⟨i1, i2, i3, i4⟩ := hin
  have b0 : Below w.heap.size w (w.alloc (.cells #[.int .i64 a, .int .i64 b, .int .i64 c, .int .i64 d] 25)) := bsa (Below.refl _ _)
  go_enter Try.func36, Try.ntmps36
  go_wp2_with fail
  refine (inewNRGBA_any a b c d N 0 0 0 none [] h3 h4 h5 h6 HN.out _ (Rd.nil _ _ _)).mono ?_
  rintro e w2 ⟨gp, gb, rfl, hgp, hgb, hi, hp, b2⟩
  obtain ⟨r0, r1, r2, r3, r4, r5⟩ := hi.cells
  clear hi hp
  go_wp2_with fail
  refine (pixoff_in gp o x y (4 * (c - a)) a b _ r1 r2 r3 (by omega) (by omega) (by omega) (by omega) (by omega) (by omega) HO.out).mono ?_
  rintro e w3 ⟨rfl, k, rfl⟩
  go_wp2_with fail
  go_ret
  exact ⟨rfl, below_drewN (Go.Proofs.Ytkhofahobcegiaa.bs b2 b0) k⟩

theorem setNRGBA_new (gp gb : Nat) (x y : Int) (q : Q4) (a b c d : Int) (N : Nat) (h3 : 0 ≤ c - a) (h4 : c - a ≤ 1000) (h5 : 0 ≤ d - b) (h6 : d - b ≤ 1000) (hN : 4 * (c - a) * (d - b) = N) (bs : List Int) (w : World) (hi : Img w gp gb 0 N (4 * (c - a)) a b c d) (hp : Pix w gb bs) (hl : bs.length = N) :
    Calls Try.prog 50 #[.pointer (some ⟨gp, 0, none⟩), .int .i64 x, .int .i64 y, .agg #[.int .u8 (q.a % 256), .int .u8 (q.b % 256), .int .u8 (q.c % 256), .int .u8 (q.d % 256)]] w fun e w' => e = .returned (.tuple #[]) ∧ Pix w' gb (wrAt bs a b c d x y q) ∧ w.grownBy w' (some gb) := by
  have kN := area_le h3 h4 h5 h6 hN
  by_cases hin : In a b c d x y
  · obtain ⟨o, ho, hoN⟩ := place_lt hN hin
    rw [wrAt_in hin ho]
    have := setNRGBA_in gp gb 0 o N x y (4 * (c - a)) a b c d (q.a % 256) (q.b % 256) (q.c % 256) (q.d % 256) bs w hi hp hin (by omega) (by omega) (by omega) (by omega) (by omega) (by omega) (by omega) (by omega) ho hoN (by omega) (by omega)
    rw [Nat.zero_add] at this
    exact this
  · rw [wrAt_out hin]
    obtain ⟨_, _, r2, r3, r4, r5⟩ := hi.cells
    exact (setNRGBA_out gp x y a b c d _ _ _ _ w hi.lt r2 r3 r4 r5 hin).mono fun e w' ⟨h, hb⟩ => ⟨h, hp.below hb, ⟨hb.os, hb.tape, hb.output, hb.size, fun i hi _ => hb.block i hi⟩⟩

theorem heap_new3 (w : World) (X Y Z : Obj) : (((w.alloc X).alloc Y).alloc Z).heap[w.heap.size + 2]? = some Z := by
  have := heap_alloc_new ((w.alloc X).alloc Y) Z
  simpa using this
set_option maxRecDepth 100000 in
theorem nrgbaWrite_any (a b c d : Int) (N : Nat) (h3 : 0 ≤ c - a) (h4 : c - a ≤ 1000) (h5 : 0 ≤ d - b) (h6 : d - b ≤ 1000) (hN : 4 * (c - a) * (d - b) = N) (n cp : Nat) (Z : Option Addr) (zs : List Int) (x y : Int) (q : Q4) (w : World) (hr : Rd w w.heap.size Z n zs) :
    Calls Try.prog 29 #[.agg #[.int .i64 a, .int .i64 b, .int .i64 c, .int .i64 d], .slice Z n cp, .int .i64 x, .int .i64 y, .agg #[.int .i64 q.a, .int .i64 q.b, .int .i64 q.c, .int .i64 q.d]] w (PicOut a b c d (4 * (c - a)) N (wrAt (byt N zs) a b c d x y q) w) := by
  have kN := area_le h3 h4 h5 h6 hN
  have HN := Lib.hid hN
  have HR := Lib.hid hr
  clear hN hr
  have b0 : Below w.heap.size w (((w.alloc (.cells #[.int .i64 a, .int .i64 b, .int .i64 c, .int .i64 d] 25)).alloc (.cells #[.int .i64 q.a, .int .i64 q.b, .int .i64 q.c, .int .i64 q.d] 32)).alloc (.cells #[.int .i64 0, .int .i64 0, .int .i64 0, .int .i64 0, .int .i64 0, .slice none 0 0] 37)) := bsa (bsa (bsa (Below.refl _ _)))
  have p6 := Lib.hid (show PBlk (((w.alloc (.cells #[.int .i64 a, .int .i64 b, .int .i64 c, .int .i64 d] 25)).alloc (.cells #[.int .i64 q.a, .int .i64 q.b, .int .i64 q.c, .int .i64 q.d] 32)).alloc (.cells #[.int .i64 0, .int .i64 0, .int .i64 0, .int .i64 0, .int .i64 0, .slice none 0 0] 37)) (w.heap.size + 2) 0 0 0 0 0 (.slice none 0 0) from heap_new3 w _ _ _)
  have kq := Lib.hid (show (((w.alloc (.cells #[.int .i64 a, .int .i64 b, .int .i64 c, .int .i64 d] 25)).alloc (.cells #[.int .i64 q.a, .int .i64 q.b, .int .i64 q.c, .int .i64 q.d] 32)).alloc (.cells #[.int .i64 0, .int .i64 0, .int .i64 0, .int .i64 0, .int .i64 0, .slice none 0 0] 37)).heap[w.heap.size + 1]? = some (.cells #[.int .i64 q.a, .int .i64 q.b, .int .i64 q.c, .int .i64 q.d] 32 (0, 0)) from bka (heap_new2 w _ _))
  go_enter Try.func29, Try.ntmps29
  go_wp2_with fail
  refine (inewNRGBA_any a b c d N n cp 0 Z zs h3 h4 h5 h6 HN.out _ ((HR.out.below b0).more b0.size)).mono ?_
  rintro e w0 ⟨gp, gb, rfl, hgp, hgb, hi, hp, b1⟩
  have bw0 : Below w.heap.size w w0 := Go.Proofs.Ytkhofahobcegiaa.bs b1 b0
  have hz8 : w.heap.size + 3 ≤ gb := by simpa using hgb
  have hz9 : w.heap.size + 3 ≤ gp := by simpa using hgp
  have P5 := Lib.hid (show PBlk w0 (w.heap.size + 2) 0 0 0 0 0 (.slice none 0 0) from bk b1 p6.out)
  obtain ⟨⟨t0, t1, t2, t3⟩, _⟩ := q4c (bk b1 kq.out)
  have HI0 := Lib.hid hi
  have HP0 := Lib.hid hp
  clear hi hp b1 b0 p6 kq hgp hgb
  go_wp2_with fail
  refine (nrgba4 q.a q.b q.c q.d _).mono ?_
  rintro e w1 ⟨rfl, bn⟩
  have bw1 := Go.Proofs.Ytkhofahobcegiaa.bs bn bw0
  have P6 := Lib.hid (show PBlk w1 (w.heap.size + 2) 0 0 0 0 0 (.slice none 0 0) from bk bn P5.out)
  have HI := Lib.hid (show Img w1 gp gb 0 N (4 * (c - a)) a b c d from bk bn HI0.out)
  have HP := Lib.hid (HP0.out.below bn)
  clear bn bw0 P5 HI0 HP0 t0 t1 t2 t3
  go_wp2_with fail
  refine (setNRGBA_new gp gb x y q a b c d N h3 h4 h5 h6 HN.out (byt N zs) _ HI.out HP.out (byt_length _ _)).mono ?_
  rintro e w2 ⟨rfl, hp2, hg2⟩
  have bw : Below w.heap.size w w2 := bw1.grown hg2 bw1.size (by intro k hk; injection hk with hk; omega)
  have hne : gp ≠ gb := HI.out.ne HP.out
  have hi2 : Img w2 gp gb 0 N (4 * (c - a)) a b c d := (hg2.block gp HI.out.lt (by intro e; injection e with e; exact hne e)).trans HI.out
  have P7 := Lib.hid (show PBlk w2 (w.heap.size + 2) 0 0 0 0 0 (.slice none 0 0) from (hg2.block _ P6.out.lt (by intro e; injection e with e; omega)).trans P6.out)
  have lz : w.heap.size + 2 < w2.heap.size := Nat.lt_of_lt_of_le P6.out.lt hg2.size
  obtain ⟨r0, r1, r2, r3, r4, r5⟩ := hi2.cells
  have HP2 := Lib.hid hp2
  clear hi2 hp2 hg2
  go_wp2_with fail
  refine region_tail 12 (by kernel_rfl) (by kernel_rfl) ?_
  simp only [List.take_succ_cons, List.take_zero, List.drop_succ_cons, List.drop_zero]
  repeat still_step
  refine wpStill_nil ?_
  clear r0 r1 r2 r3 r4 r5
  go_wp2_with fail
  refine (picture_any a b c d (4 * (c - a)) N N (some ⟨gb, 0, none⟩) (wrAt (byt N zs) a b c d x y q) w2.drew (by have := HP2.out.rd (off := 0) (n := N) (by rw [wrAt_length, byt_length]; omega) (by omega); rw [List.drop_zero] at this; exact this)).mono ?_
  rintro e w3 ⟨A, cp', rfl, hrd, hlo, hb3⟩
  have p8 : PBlk w3 (w.heap.size + 2) 0 0 0 0 0 (.slice none 0 0) := (hb3.block _ lz).trans P7.out
  obtain ⟨s0, s1, s2, s3, s4, s5⟩ := p8.cell
  have g0 := p8.free 0
  have g1 := p8.free 1
  have g2 := p8.free 2
  have g3 := p8.free 3
  have g4 := p8.free 4
  have g5 := p8.free 5
  have b9 := Lib.hid (bw.drew.trans (hb3.mono bw.size))
  have RD := Lib.hid (show _ from And.intro hrd hlo)
  clear hrd hlo hb3 p8 P7
  go_wp2
  refine bodyPost_ret (v := .agg #[.int .i64 a, .int .i64 b, .int .i64 c, .int .i64 d, .int .i64 (4 * (c - a)), .slice A N cp']) (by simp [results, Try.results29, go_sem, s0, s1, s2, s3, s4, s5]) rfl ?_
  exact picOut_set RD.out.1 (fun b o h => Nat.lt_of_lt_of_le lz (RD.out.2 b o h)) b9.out (by omega)


end Go.Proofs.Ytkhofahobcegiaa

/-
  Contracts: a part of an image that has points; the bytes of a pixel. No condition.
-/
import Derived.Test.YtpllecddmpdaiaaNQ1
import Derived.Test.YtpllecddmpdaiaaCM
import Derived.Test.YtpllecddmpdaiaaX1
import Derived.Test.YtpllecddmpdaiaaI1
import Derived.Test.YtpllecddmpdaiaaNH1
namespace Go.Proofs.Ytpllecddmpdaiaa
open Go.ChangeShapes Go.WideShapes Go.ChangeAt Go.RowKit
set_option linter.unusedVariables false
set_option linter.unusedSimpArgs false

theorem heap_sb3 (w : World) (X Y Z : Obj) : (((w.alloc X).alloc Y).alloc Z).heap[w.heap.size + 2]? = some Z := by
  have := heap_alloc_new ((w.alloc X).alloc Y) Z
  simpa using this
theorem ta_sb (g : Nat) (W : World) : (Instr.typeAssert (.iface 39 (.pointer (some ⟨g, 0, none⟩))) 42 39 false).run Try.prog W = .ok (.pointer (some ⟨g, 0, none⟩)) W := by kernel_rfl
theorem place_part {R q : Q4} {N off : Nat} {x y : Int} (hN : 4 * (R.c - R.a) * (R.d - R.b) = N) (hl : Lies R q) (hin : In q.a q.b q.c q.d x y) (ho : (q.b - R.b) * (4 * (R.c - R.a)) + (q.a - R.a) * 4 = (off : Int)) :
    ∃ o : Nat, (y - q.b) * (4 * (R.c - R.a)) + (x - q.a) * 4 = (o : Int) ∧ off + o + 4 ≤ N ∧ (y - R.b) * (4 * (R.c - R.a)) + (x - R.a) * 4 = ((off + o : Nat) : Int) := by
  obtain ⟨p, hp, hpN⟩ := place_lt hN (hl.inn hin)
  obtain ⟨i1, i2, i3, i4⟩ := hin
  obtain ⟨l1, l2, l3, l4⟩ := hl
  have k1 : 0 ≤ (y - q.b) * (4 * (R.c - R.a)) := Int.mul_nonneg (by omega) (by omega)
  have e : (y - R.b) * (4 * (R.c - R.a)) = (y - q.b) * (4 * (R.c - R.a)) + (q.b - R.b) * (4 * (R.c - R.a)) := by rw [← Int.add_mul]; congr 1; omega
  refine ⟨((y - q.b) * (4 * (R.c - R.a)) + (x - q.a) * 4).toNat, by omega, by omega, by omega⟩

theorem at_val (a b c d st m x y : Int) (o N cp mn : Nat) (A : Option Addr) (h1 : 0 ≤ y - b) (h2 : y - b ≤ 1000) (h3 : 0 ≤ x - a) (h4 : x - a ≤ 1000) (h5 : 0 ≤ st) (h6 : st ≤ 4000) (hm : m = (mn : Int)) (hm0 : 0 < mn) (hm4 : mn ≤ 4) (ho : (y - b) * st + (x - a) * m = o) (hoN : o + mn ≤ N) (hN : N ≤ 4000000) (hc : N ≤ cp) (g off : Nat) (hA : A = some ⟨g, off, none⟩) (w : World) :
    Calls Try.prog 8 #[.agg #[.int .i64 a, .int .i64 b, .int .i64 c, .int .i64 d, .int .i64 st, .slice A N cp], .int .i64 m, .int .i64 x, .int .i64 y] w fun e w' => e = .returned (.tuple #[.slice (some ⟨g, off + o, none⟩) mn (cp - o), .bool true]) ∧ Below w.heap.size w w' := by
  subst hA
  have k1 : 0 ≤ (y - b) * st := Int.mul_nonneg h1 h5
  have k2 : (y - b) * st ≤ 1000 * 4000 := Int.mul_le_mul h2 h6 h5 (by decide)
  have k3 : 0 ≤ (x - a) * m := Int.mul_nonneg h3 (by omega)
  have k4 : (x - a) * m ≤ 1000 * 4 := Int.mul_le_mul h4 (by omega) (by omega) (by decide)
  have e1 : IntKind.i64.wrap (y - b) = y - b := IntWalk.i64_in _ ⟨by omega, by omega⟩
  have e2 : IntKind.i64.wrap ((y - b) * st) = (y - b) * st := IntWalk.i64_in _ ⟨by omega, by omega⟩
  have e3 : IntKind.i64.wrap (x - a) = x - a := IntWalk.i64_in _ ⟨by omega, by omega⟩
  have e4 : IntKind.i64.wrap ((x - a) * m) = (x - a) * m := IntWalk.i64_in _ ⟨by omega, by omega⟩
  have e5 : IntKind.i64.wrap ((y - b) * st + (x - a) * m) = (o : Int) := by rw [ho]; exact IntWalk.i64_in _ ⟨by omega, by omega⟩
  have e6 : IntKind.i64.wrap ((o : Int) + m) = ((o + mn : Nat) : Int) := by rw [show (o : Int) + m = ((o + mn : Nat) : Int) by omega]; exact IntWalk.i64_in _ ⟨by omega, by omega⟩
  have t1 : ¬ ((o : Int) < 0) := by omega
  have t2 : ¬ (((o + mn : Nat) : Int) > (N : Int)) := by omega
  have t3 : ¬ ((N : Int) < ((o + mn : Nat) : Int)) := by omega
  have s1 : o + mn ≤ cp := by omega
  have s2 : o ≤ o + mn := by omega
  have s3 : (o : Int) ≤ ((o + mn : Nat) : Int) := by omega
  have s4 : ((o + mn : Nat) : Int) ≤ (cp : Int) := by omega
  have s5 : (0 : Int) ≤ ((o + mn : Nat) : Int) := by omega
  have s6 : ¬ cp = o := by omega
  have t4 : ¬ ((N : Int) < (o : Int) + (mn : Int)) := by omega
  clear k1 k2 k3 k4 ho h1 h2 h3 h4 h5 h6 hm hm0 hm4 hoN hN hc
  go_enter Try.func8, Try.ntmps8
  go_wp2
  exact bodyPost_ret (v := .tuple #[.slice (some ⟨g, off + o, none⟩) mn (cp - o), .bool true]) (by simp [results, Try.results8, go_sem]) rfl ⟨rfl, (Below.refl _ _).alloc (Nat.le_refl _) _⟩

set_option maxRecDepth 100000 in
theorem nrgbaSub_some (a b c d : Int) (N : Nat) (h3 : 0 ≤ c - a) (h4 : c - a ≤ 1000) (h5 : 0 ≤ d - b) (h6 : d - b ≤ 1000) (hN : 4 * (c - a) * (d - b) = N) (n cp : Nat) (Z : Option Addr) (zs : List Int) (s : Q4) (t : Q4) (hc : com ⟨a, b, c, d⟩ s = some t) (o nl : Nat) (ho : (t.b - b) * (4 * (c - a)) + (t.a - a) * 4 = o) (hnl : N = o + nl) (hn0 : 0 < nl) (w : World) (hr : Rd w w.heap.size Z n zs) :
    Calls Try.prog 7 #[.agg #[.int .i64 a, .int .i64 b, .int .i64 c, .int .i64 d], .slice Z n cp, .agg #[.int .i64 s.a, .int .i64 s.b, .int .i64 s.c, .int .i64 s.d]] w (PicCap t.a t.b t.c t.d (4 * (c - a)) nl ((byt N zs).drop o) w) := by
  have HN := Lib.hid hN
  have HR := Lib.hid hr
  have kN := area_le h3 h4 h5 h6 hN
  obtain ⟨hct, hc1, hc2, hcl⟩ := com_some hc
  have HC := Lib.hid hct
  have HO := Lib.hid ho
  obtain ⟨t0, t1, t2, t3⟩ := t
  dsimp only at hc1 hc2 hcl HO
  clear hN hr hc hct ho
  obtain ⟨s0, s1, s2, s3⟩ := s
  dsimp only at HC
  have hT := HC.out
  injection hT with hT0 hT1 hT2 hT3
  have HT := Lib.hid (show _ from And.intro hT0 (And.intro hT1 (And.intro hT2 hT3)))
  clear hT0 hT1 hT2 hT3 HC
  show Calls Try.prog 7 #[.agg #[.int .i64 a, .int .i64 b, .int .i64 c, .int .i64 d], .slice Z n cp, .agg #[.int .i64 s0, .int .i64 s1, .int .i64 s2, .int .i64 s3]] w (PicCap t0 t1 t2 t3 (4 * (c - a)) nl ((byt N zs).drop o) w)
  obtain ⟨X, hX⟩ : ∃ X, X = (((w.alloc (.cells #[.int .i64 a, .int .i64 b, .int .i64 c, .int .i64 d] 25)).alloc (.cells #[.int .i64 s0, .int .i64 s1, .int .i64 s2, .int .i64 s3] 25)).alloc (.cells #[.int .i64 0, .int .i64 0, .int .i64 0, .int .i64 0, .int .i64 0, .slice none 0 0] 31)) := ⟨_, rfl⟩
  have b0 : Below w.heap.size w X := by rw [hX]; exact bsa (bsa (bsa (Below.refl _ _)))
  have p6 : PBlk X (w.heap.size + 2) 0 0 0 0 0 (.slice none 0 0) := by rw [hX]; exact heap_sb3 w _ _ _
  have k_q : X.heap[w.heap.size + 1]? = some (.cells #[.int .i64 s0, .int .i64 s1, .int .i64 s2, .int .i64 s3] 25 (0, 0)) := by rw [hX]; exact bka (heap_new2 w _ _)
  have hXs : X.heap.size = w.heap.size + 3 := by rw [hX]; simp
  go_enter Try.func7, Try.ntmps7
  go_wp2_with fail
  rw [← hX]
  refine (inewNRGBA_any a b c d N n cp 0 Z zs h3 h4 h5 h6 HN.out _ ((HR.out.below b0).more b0.size)).mono ?_
  rintro e w1 ⟨gp, gb, rfl, hgp, hgb, hi, hp, b1⟩
  have bw1 : Below w.heap.size w w1 := bst b1 b0
  have p7 : PBlk w1 (w.heap.size + 2) 0 0 0 0 0 (.slice none 0 0) := bk b1 p6
  have q1 := (q4c (bk b1 k_q)).1
  clear hX b1 b0 p6 k_q hgb
  go_wp2_with fail
  refine (rectangle4 _ _ _ _ _).mono ?_
  rintro e w2 ⟨rfl, b2⟩
  have bw2 := bst b2 bw1
  have p8 : PBlk w2 (w.heap.size + 2) 0 0 0 0 0 (.slice none 0 0) := bk b2 p7
  have hi2 : Img w2 gp gb 0 N (4 * (c - a)) a b c d := bk b2 hi
  have hp2 : Pix w2 gb (byt N zs) := hp.below b2
  clear b2 bw1 p7 hi hp q1
  go_wp2_with fail
  refine (sub_some gp gb 0 N o s0 s1 s2 s3 (4 * (c - a)) a b c d t0 t1 t2 t3 w2 hi2 (by rw [HT.out.1]; exact gmax_gr _ _) (by rw [HT.out.2.1]; exact gmax_gr _ _) (by rw [HT.out.2.2.1]; exact lmin_ls _ _) (by rw [HT.out.2.2.2]; exact lmin_ls _ _) hc1 hc2 h6 h4 (by omega) (by omega) HO.out (by omega) (by omega)).mono ?_
  rintro e w3 ⟨g, rfl, hg, himg, b3⟩
  rw [Nat.zero_add, show N - o = nl by omega] at himg
  have hp3 : Pix w3 gb (byt N zs) := hp2.below b3
  have hta := fun W => ta_sb g W
  have bw3 := bst b3 bw2
  have p9 : PBlk w3 (w.heap.size + 2) 0 0 0 0 0 (.slice none 0 0) := bk b3 p8
  have lz : w.heap.size + 2 < w3.heap.size := p9.lt
  have P9 := Lib.hid p9
  obtain ⟨n0, n1, n2, n3, n4, n5⟩ := himg.cells
  have hgl : g < w3.heap.size := himg.lt
  have HP3 := Lib.hid hp3
  clear b3 bw2 p8 p9 hi2 himg hp2 hp3
  go_wp2_with fail
  refine region_tail 12 (by kernel_rfl) (by kernel_rfl) ?_
  simp only [List.take_succ_cons, List.take_zero, List.drop_succ_cons, List.drop_zero]
  repeat still_step
  refine wpStill_nil ?_
  clear n0 n1 n2 n3 n4 n5 hta
  go_wp2_with fail
  refine (picture_cap t0 t1 t2 t3 (4 * (c - a)) nl nl (some ⟨gb, o, none⟩) ((byt N zs).drop o) w3.drew (HP3.out.rd (off := o) (n := nl) (by rw [byt_length]; omega) (by omega))).mono ?_
  rintro e w4 ⟨A, cp', rfl, hrd, hlo, hb3, hcap⟩
  have p8 : PBlk w4 (w.heap.size + 2) 0 0 0 0 0 (.slice none 0 0) := (hb3.block _ lz).trans P9.out
  obtain ⟨s0, s1, s2, s3, s4, s5⟩ := p8.cell
  have g0 := p8.free 0
  have g1 := p8.free 1
  have g2 := p8.free 2
  have g3 := p8.free 3
  have g4 := p8.free 4
  have g5 := p8.free 5
  have HCAP := Lib.hid hcap
  clear hcap
  have b9 := Lib.hid (bw3.drew.trans (hb3.mono bw3.size))
  have RD := Lib.hid (show _ from And.intro hrd hlo)
  clear hrd hlo hb3 p8 P9
  go_wp2
  refine bodyPost_ret (v := .agg #[.int .i64 t0, .int .i64 t1, .int .i64 t2, .int .i64 t3, .int .i64 (4 * (c - a)), .slice A nl cp']) (by simp [results, Try.results7, go_sem, s0, s1, s2, s3, s4, s5]) rfl ?_
  exact picCap_set HCAP.out RD.out.1 (fun b o h => Nat.lt_of_lt_of_le lz (RD.out.2 b o h)) b9.out (by omega)

end Go.Proofs.Ytpllecddmpdaiaa

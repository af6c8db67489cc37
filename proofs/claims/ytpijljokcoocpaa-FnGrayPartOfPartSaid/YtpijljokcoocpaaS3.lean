/-
  Contracts of the reference's functions on gray images. No condition.
-/
import Derived.Test.YtpijljokcoocpaaS2
import Derived.Test.YtpijljokcoocpaaI9
namespace Go.Proofs.Ytpijljokcoocpaa
open Go.ChangeShapes Go.WideShapes Go.ChangeAt Go.RowKit
set_option linter.unusedVariables false
set_option linter.unusedSimpArgs false

theorem made_gray (a b c d : Int) (N : Nat) (h3 : 0 ≤ c - a) (h4 : c - a ≤ 1000) (h5 : 0 ≤ d - b) (h6 : d - b ≤ 1000) (hN : (c - a) * (d - b) = N) (n cp : Nat) (Z : Option Addr) (zs : List Int) (w : World) (hr : Rd w w.heap.size Z n zs) :
    Calls Try.prog 50 #[.agg #[.int .i64 a, .int .i64 b, .int .i64 c, .int .i64 d], .int .i64 1, .slice Z n cp] w (MadeOut a b c d (c - a) N (byt N zs) w) :=
  made_any a b c d 1 (c - a) N N n cp Z zs (by decide) (by decide) h3 h4 h5 h6 hN (by omega) (by omega) w hr

set_option maxRecDepth 100000 in
theorem sgrayNew_any (a b c d : Int) (N : Nat) (h3 : 0 ≤ c - a) (h4 : c - a ≤ 1000) (h5 : 0 ≤ d - b) (h6 : d - b ≤ 1000) (hN : (c - a) * (d - b) = N) (w : World) :
    Calls Try.prog 26 #[.agg #[.int .i64 a, .int .i64 b, .int .i64 c, .int .i64 d]] w (PicOut a b c d (c - a) N (byt N []) w) := by
  have kN := area_le h3 h4 h5 h6 hN
  have HN := Lib.hid hN
  clear hN
  go_enter Try.func26, Try.ntmps26
  go_wp2_with fail
  refine (made_gray a b c d N h3 h4 h5 h6 HN.out 0 0 none [] _ (Rd.nil _ _ _)).mono ?_
  rintro e w1 ⟨g, rfl, hg, hp, b1⟩
  have b0 : Below w.heap.size w w1 := (((Below.refl _ _).alloc (Nat.le_refl _) _).alloc (by simp) _).trans (b1.mono (by simp; omega))
  have zg : w.heap.size + 2 ≤ g := by simpa using hg
  have p8 : PBlk w1 (w.heap.size + 1) 0 0 0 0 0 (.slice none 0 0) := (b1.block _ (by simp)).trans (heap_new2 w _ _)
  obtain ⟨s0, s1, s2, s3, s4, s5⟩ := p8.cell
  have g0 := p8.free 0
  have g1 := p8.free 1
  have g2 := p8.free 2
  have g3 := p8.free 3
  have g4 := p8.free 4
  have g5 := p8.free 5
  have HP := Lib.hid hp
  clear hp p8 b1 hg
  go_wp2
  refine bodyPost_ret (v := .agg #[.int .i64 a, .int .i64 b, .int .i64 c, .int .i64 d, .int .i64 (c - a), .slice (some ⟨g, 0, none⟩) N N]) (by simp [results, Try.results26, go_sem, s0, s1, s2, s3, s4, s5]) rfl ?_
  exact (made_set HP.out (by omega) (by omega) b0 (by omega)).pic (byt_length _ _) (by omega)

theorem sgrayOpaque_any (q : Value) (Z : Value) (a b c d : Int) (w : World) :
    Calls Try.prog 34 #[.agg #[.int .i64 a, .int .i64 b, .int .i64 c, .int .i64 d], Z] w fun e w' => e = .returned (.bool true) ∧ Below w.heap.size w w' := by
  go_enter Try.func34, Try.ntmps34
  go_wp2
  go_ret
  exact ⟨rfl, (Below.refl _ _).alloc (Nat.le_refl _) _⟩

theorem sgrayOffset_any (a b c d x y : Int) (o : Int) (h4 : c - a ≤ 1000) (h6 : d - b ≤ 1000) (hin : In a b c d x y) (ho : (y - b) * (c - a) + (x - a) = o) (w : World) :
    Calls Try.prog 32 #[.agg #[.int .i64 a, .int .i64 b, .int .i64 c, .int .i64 d], .int .i64 x, .int .i64 y] w fun e w' => e = .returned (.int .i64 o) ∧ Below w.heap.size w w' := by
  have HO := Lib.hid (show (y - b) * (c - a) + (x - a) * 1 = o by rw [Int.mul_one]; exact ho)
  clear ho
  obtain ⟨i1, i2, i3, i4⟩ := hin
  go_enter Try.func32, Try.ntmps32
  go_wp2_with fail
  refine (place_any _ _ _ _ _ _ _ _ o (by omega) (by omega) (by omega) (by omega) (by omega) (by omega) (by omega) (by omega) HO.out _).mono ?_
  rintro e w1 ⟨rfl, b1⟩
  go_wp2_with fail
  go_ret
  exact ⟨rfl, ((Below.refl _ _).alloc (Nat.le_refl _) _).trans (b1.mono (by simp))⟩

set_option maxRecDepth 100000 in
theorem sgrayRead_any (a b c d : Int) (N : Nat) (h3 : 0 ≤ c - a) (h4 : c - a ≤ 1000) (h5 : 0 ≤ d - b) (h6 : d - b ≤ 1000) (hN : (c - a) * (d - b) = N) (n cp : Nat) (Z : Option Addr) (zs : List Int) (x y : Int) (w : World) (hr : Rd w w.heap.size Z n zs) :
    Calls Try.prog 30 #[.agg #[.int .i64 a, .int .i64 b, .int .i64 c, .int .i64 d], .slice Z n cp, .int .i64 x, .int .i64 y] w fun e w' => e = .returned (.int .i64 (rdAt (byt N zs) a b c d x y)) ∧ Below w.heap.size w w' := by
  have kN := area_le h3 h4 h5 h6 hN
  have HR := Lib.hid hr
  have b0 : Below w.heap.size w (w.alloc (.cells #[.int .i64 a, .int .i64 b, .int .i64 c, .int .i64 d] 26)) := (Below.refl _ _).alloc (Nat.le_refl _) _
  by_cases hin : In a b c d x y
  · obtain ⟨o, ho, hoN⟩ := place_lt hN hin
    have ER := Lib.hid (rdAt_in (bs := byt N zs) hin ho)
    have HN := Lib.hid hN
    have HO := Lib.hid (show (y - b) * (c - a) + (x - a) * 1 = (o : Int) by rw [Int.mul_one]; exact ho)
    have HIN := Lib.hid hin
    clear hN hr ho hin
    go_enter Try.func30, Try.ntmps30
    go_wp2_with fail
    refine (sHas_yes _ _ _ _ _ _ HIN.out _).mono ?_
    rintro e w1 ⟨rfl, b1⟩
    obtain ⟨hc1, _⟩ := bcell b1
    have z1 : w.heap.size < w1.heap.size := Nat.lt_of_lt_of_le (by simp) b1.size
    have bw1 : Below w.heap.size w w1 := b0.trans (b1.mono b0.size)
    have c0 : w1.cell? ⟨w.heap.size, 0, none⟩ = some (.int .i64 a) := by rw [hc1 w.heap.size 0 (by simp)]; simp
    have c1 : w1.cell? ⟨w.heap.size, 1, none⟩ = some (.int .i64 b) := by rw [hc1 w.heap.size 1 (by simp)]; simp
    have c2 : w1.cell? ⟨w.heap.size, 2, none⟩ = some (.int .i64 c) := by rw [hc1 w.heap.size 2 (by simp)]; simp
    have c3 : w1.cell? ⟨w.heap.size, 3, none⟩ = some (.int .i64 d) := by rw [hc1 w.heap.size 3 (by simp)]; simp
    clear hc1
    go_wp2_with fail
    refine (made_gray a b c d N h3 h4 h5 h6 HN.out n cp Z zs _ (by exact (HR.out.below bw1).more bw1.size)).mono ?_
    rintro e w2 ⟨g, rfl, hg, hp, b2⟩
    have bw2 : Below w.heap.size w w2 := bw1.trans (b2.mono bw1.size)
    have d0 := (b2.cell (p := ⟨w.heap.size, 0, none⟩) z1).trans c0
    have d1 := (b2.cell (p := ⟨w.heap.size, 1, none⟩) z1).trans c1
    have d2 := (b2.cell (p := ⟨w.heap.size, 2, none⟩) z1).trans c2
    have d3 := (b2.cell (p := ⟨w.heap.size, 3, none⟩) z1).trans c3
    have x1 := hp.cell (i := o) (by rw [byt_length]; exact hoN)
    have lg := hp.lt
    have z2 : w.heap.size < w2.heap.size := Nat.lt_of_lt_of_le z1 b2.size
    have n1 : ¬ w.heap.size = w2.heap.size := by omega
    have n2 : ¬ g = w2.heap.size := by omega
    have hoI : (o : Int) < (N : Int) := by omega
    obtain ⟨i1, i2, i3, i4⟩ := HIN.out
    generalize hv : (byt N zs).getD o 0 = v at x1
    have HV := Lib.hid (ER.out.trans hv)
    clear hv c0 c1 c2 c3 hp b1 b2 HR hg ER
    have z3 : w.heap.size < w2.heap.size + 1 := by omega
    have z4 : g < w2.heap.size + 1 := by omega
    have z5 : w2.heap.size < w2.heap.size + 1 := by omega
    go_wp2_with fail
    go_region_held3 (fun w' => w'.cell? ⟨w.heap.size, 0, none⟩ = some (.int .i64 a) ∧ w'.cell? ⟨w.heap.size, 1, none⟩ = some (.int .i64 b) ∧ w'.cell? ⟨w.heap.size, 2, none⟩ = some (.int .i64 c) ∧ w'.cell? ⟨w.heap.size, 3, none⟩ = some (.int .i64 d) ∧ w'.cell? ⟨w2.heap.size, 4, none⟩ = some (.int .i64 (c - a)) ∧ w'.cell? ⟨w2.heap.size, 5, none⟩ = some (.slice (some ⟨g, 0, none⟩) N N) ∧ w'.cell? ⟨g, o, none⟩ = some (.int .i64 v)) (go_keep)
      (first | (go_at_call 54; refine (place_any _ _ _ _ _ _ _ _ (o : Int) (by omega) (by omega) (by omega) (by omega) (by omega) (by omega) (by omega) (by omega) HO.out _).mono ?_; rintro e wp ⟨rfl, bp⟩; obtain ⟨hcp, _⟩ := bcell bp))
    go_wp2
    go_ret
    have b9 : Below w.heap.size w (w2.alloc (.cells #[.int .i64 a, .int .i64 b, .int .i64 c, .int .i64 d, .int .i64 (c - a), .slice (some ⟨g, 0, none⟩) N N] 29)) := bw2.alloc bw2.size _
    refine ⟨?_, b9.drew.trans (bp.mono b9.size)⟩
    rw [HV.out]; rfl
  · have ER := Lib.hid (rdAt_out (bs := byt N zs) hin)
    have HIN := Lib.hid hin
    clear hN hr hin
    go_enter Try.func30, Try.ntmps30
    go_wp2_with fail
    refine (sHas_no _ _ _ _ _ _ HIN.out _).mono ?_
    rintro e w1 ⟨rfl, b1⟩
    go_wp2_with fail
    go_ret
    refine ⟨?_, b0.trans (b1.mono b0.size)⟩
    rw [ER.out]; rfl

theorem sgrayColor_any (a b c d : Int) (N : Nat) (h3 : 0 ≤ c - a) (h4 : c - a ≤ 1000) (h5 : 0 ≤ d - b) (h6 : d - b ≤ 1000) (hN : (c - a) * (d - b) = N) (n cp : Nat) (Z : Option Addr) (zs : List Int) (x y : Int) (w : World) (hr : Rd w w.heap.size Z n zs) :
    Calls Try.prog 38 #[.agg #[.int .i64 a, .int .i64 b, .int .i64 c, .int .i64 d], .slice Z n cp, .int .i64 x, .int .i64 y] w fun e w' => e = .returned (.int .i64 (rdAt (byt N zs) a b c d x y)) ∧ Below w.heap.size w w' := by
  have b0 : Below w.heap.size w (w.alloc (.cells #[.int .i64 a, .int .i64 b, .int .i64 c, .int .i64 d] 26)) := (Below.refl _ _).alloc (Nat.le_refl _) _
  have X := Lib.hid (sgrayRead_any a b c d N h3 h4 h5 h6 hN n cp Z zs x y _ ((hr.below b0).more b0.size))
  clear hr hN
  go_enter Try.func38, Try.ntmps38
  go_wp2_with fail
  refine X.out.mono ?_
  rintro e w1 ⟨rfl, b1⟩
  go_wp2_with fail
  go_ret
  exact ⟨rfl, b0.trans (b1.mono b0.size)⟩

/-- Numbers put one behind the other, modulo 256. -/
def puts (bs : List Int) (o : Nat) : List Int → List Int
  | [] => bs
  | c :: cs => puts (bs.set o (c % 256)) (o + 1) cs
theorem puts_snoc (bs : List Int) (o : Nat) (cs : List Int) (c : Int) : puts bs o (cs ++ [c]) = (puts bs o cs).set (o + cs.length) (c % 256) := by
  induction cs generalizing bs o with
  | nil => simp [puts]
  | cons x cs ih => simp only [List.cons_append, puts, ih, List.length_cons]; congr 1; omega
theorem puts_length (bs : List Int) (o : Nat) (cs : List Int) : (puts bs o cs).length = bs.length := by
  induction cs generalizing bs o with
  | nil => rfl
  | cons x cs ih => simp [puts, ih]

set_option maxRecDepth 100000 in
theorem paint_in (a b c d p q r s st x y : Int) (g N o m cp : Nat) (Z : Option Addr) (bs cs : List Int) (w : World) (hin : In p q r s x y) (hp : IPix w g bs) (hl : bs.length = N) (hN : N ≤ 4000000) (hr : Rd w w.heap.size Z m cs) (hm : m ≤ 4) (hg : ∀ b o, Z = some ⟨b, o, none⟩ → b ≠ g)
    (h1 : 0 ≤ y - b) (h2 : y - b ≤ 1000) (h3 : 0 ≤ x - a) (h4 : x - a ≤ 1000) (h5 : 0 ≤ st) (h6 : st ≤ 4000) (ho : (y - b) * st + (x - a) * m = o) (hoN : o + m ≤ N) :
    Calls Try.prog 58 #[.agg #[.int .i64 a, .int .i64 b, .int .i64 c, .int .i64 d, .int .i64 st, .slice (some ⟨g, 0, none⟩) N N], .agg #[.int .i64 p, .int .i64 q, .int .i64 r, .int .i64 s], .int .i64 x, .int .i64 y, .slice Z m cp] w
      fun e w' => e = .returned (.tuple #[]) ∧ IPix w' g (puts bs o cs) ∧ w.grownBy w' (some g) := by
  have HIN := Lib.hid hin
  have HO := Lib.hid ho
  have HR := Lib.hid hr
  have HP := Lib.hid hp
  have HG := Lib.hid hg
  have HL := Lib.hid hl
  have lg := hp.lt
  clear hin ho hr hp hg hl
  have b0 : Below w.heap.size w ((w.alloc (.cells #[.int .i64 a, .int .i64 b, .int .i64 c, .int .i64 d, .int .i64 st, .slice (some ⟨g, 0, none⟩) N N] 29)).alloc (.cells #[.int .i64 p, .int .i64 q, .int .i64 r, .int .i64 s] 26)) := ((Below.refl _ _).alloc (Nat.le_refl _) _).alloc (by simp) _
  have p6 := Lib.hid (show PBlk ((w.alloc (.cells #[.int .i64 a, .int .i64 b, .int .i64 c, .int .i64 d, .int .i64 st, .slice (some ⟨g, 0, none⟩) N N] 29)).alloc (.cells #[.int .i64 p, .int .i64 q, .int .i64 r, .int .i64 s] 26)) w.heap.size a b c d st (.slice (some ⟨g, 0, none⟩) N N) from (Below.heap_alloc _ _ _ (by simp)).trans (heap_alloc_new w _))
  go_enter Try.func58, Try.ntmps58
  go_wp2_with fail
  refine (sHas_yes _ _ _ _ _ _ HIN.out _).mono ?_
  rintro e w1 ⟨rfl, b1⟩
  have bw1 : Below w.heap.size w w1 := b0.trans (b1.mono b0.size)
  have p7 : PBlk w1 w.heap.size a b c d st (.slice (some ⟨g, 0, none⟩) N N) := (b1.block _ (by simp; omega)).trans p6.out
  obtain ⟨s0, s1, s2, s3, s4, s5⟩ := p7.cell
  have P7 := Lib.hid p7
  clear p7 p6
  go_wp2_with fail
  refine (place_any _ _ _ _ _ _ _ _ (o : Int) h1 h2 h3 h4 h5 h6 (by omega) (by omega) HO.out _).mono ?_
  rintro e w2 ⟨rfl, b2⟩
  have bw2 : Below w.heap.size w w2 := bw1.trans (b2.mono bw1.size)
  have P8 := Lib.hid (show PBlk w2 w.heap.size a b c d st (.slice (some ⟨g, 0, none⟩) N N) from (b2.block _ P7.out.lt).trans P7.out)
  have HP2 := Lib.hid (HP.out.below bw2)
  clear s0 s1 s2 s3 s4 s5 b0 b1 b2 HP P7
  go_wp2_with fail
  have G2 := Lib.hid (show w.grownBy w2 (some g) from ⟨bw2.os, bw2.tape, bw2.output, bw2.size, fun i hi _ => bw2.block i hi⟩)
  clear bw1 bw2
  go_loopw [29, 11, 12] (fun i _ _ wr => ∃ (k : Nat), k ≤ m ∧ i = .int .i64 k ∧ Hid (IPix wr g (puts bs o (cs.take k))) ∧ Hid (PBlk wr w.heap.size a b c d st (.slice (some ⟨g, 0, none⟩) N N)) ∧ Hid (w.grownBy wr (some g))) (fun i _ _ _ => m - (intOf i).toNat)
  case atStart => exact ⟨0, by omega, rfl, HP2, P8, G2⟩
  case round =>
    obtain ⟨k, hk, rfl, HK, HQ, HGR⟩ := hrel
    by_cases hlt : k < m
    · obtain ⟨hcl, _, hci, hcc⟩ := HR.out
      obtain ⟨zb, zo, rfl, hzb, hcell⟩ := hcc (by omega)
      have zne := HG.out zb zo rfl
      have x1 : wr.cell? ⟨zb, zo + k, none⟩ = some (.int .i64 (cs.getD k 0)) := (World.cell?_of_block (HGR.out.block zb hzb (by intro e; injection e with e; exact zne e))).trans (hcell k hlt)
      have xz : I64 (cs.getD k 0) := hci _ (by simp [List.getD, show k < cs.length by omega])
      have HT := Lib.hid (take_snoc cs k (by omega))
      have HTL := Lib.hid (show (cs.take k).length = k by simp; omega)
      generalize cs.getD k 0 = z at x1 xz HT
      have x2 := HK.out.cell (i := o + k) (by rw [puts_length, HL.out]; omega)
      have x3 := HK.out.free (o + k)
      generalize hv : (puts bs o (cs.take k)).getD (o + k) 0 = v0 at x2
      obtain ⟨_, _, _, _, _, s5⟩ := HQ.out.cell
      clear hv hcell hcc hci hcl
      have e1 : IntKind.i64.wrap ((o : Int) + (k : Int)) = (o : Int) + (k : Int) := IntWalk.i64_in _ ⟨by omega, by omega⟩
      have e2 : ((o : Int) + (k : Int)).toNat = o + k := by omega
      have e3 : 0 ≤ (o : Int) + (k : Int) := by omega
      have e4 : (o : Int) + (k : Int) < (N : Int) := by omega
      go_wp2_with fail
      refine region_tail 8 (by kernel_rfl) (by kernel_rfl) ?_
      simp only [List.take_succ_cons, List.take_zero, List.drop_succ_cons, List.drop_zero]
      repeat (first | still_step | still_call (slow_same _ xz _))
      refine wpStill_nil ?_
      clear e1 e2
      go_wp2
      go_roundw
      case rel =>
        refine ⟨k + 1, by omega, by go_num, ?_, ?_, ?_⟩
        · have := IPix.set (w := wr.drew) HK.out (o + k) (z % 256) (by omega) (by omega)
          rw [HT.out, puts_snoc, HTL.out]
          exact this
        · have hne : w.heap.size ≠ g := by omega
          exact (Below.heap_setCell _ _ _ _ hne).trans HQ.out
        · have hg := HGR.out
          exact ⟨hg.os, hg.tape, hg.output, by simpa [World.setCell] using hg.size, fun i hi hne => (Below.heap_setCell _ _ _ i (by rintro rfl; exact hne rfl)).trans (hg.block i hi hne)⟩
      case measure => simp [intOf]; omega
    · obtain rfl : k = m := by omega
      go_wp2
      go_end0
      refine ⟨rfl, ?_, HGR.out⟩
      have := HK.out
      rw [List.take_of_length_le (by have := HR.out.1; omega)] at this
      exact this

theorem paint_out (v0 v1 v2 v3 v4 v5 : Value) (p q r s x y : Int) (V : Value) (w : World) (hin : ¬ In p q r s x y) :
    Calls Try.prog 58 #[.agg #[v0, v1, v2, v3, v4, v5], .agg #[.int .i64 p, .int .i64 q, .int .i64 r, .int .i64 s], .int .i64 x, .int .i64 y, V] w
      fun e w' => e = .returned (.tuple #[]) ∧ Below w.heap.size w w' := by
  have HIN := Lib.hid hin
  clear hin
  go_enter Try.func58, Try.ntmps58
  go_wp2_with fail
  refine (sHas_no _ _ _ _ _ _ HIN.out _).mono ?_
  rintro e w1 ⟨rfl, b1⟩
  go_wp2_with fail
  exact bodyPost_ret (results_none rfl _ _ _) rfl ⟨rfl, (((Below.refl _ _).alloc (Nat.le_refl _) _).alloc (by simp) _).trans (b1.mono (by simp; omega))⟩

end Go.Proofs.Ytpijljokcoocpaa

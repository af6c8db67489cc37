/-
  Contracts of the reference's functions on gray images. No condition.
-/
import Derived.Test.YtgefbnnipcbbiaaS2
import Derived.Test.YtgefbnnipcbbiaaI9
namespace Go.Proofs.Ytgefbnnipcbbiaa
open Go.ChangeShapes Go.WideShapes Go.ChangeAt Go.RowKit
set_option linter.unusedVariables false
set_option linter.unusedSimpArgs false

theorem made_gray (a b c d : Int) (N : Nat) (h3 : 0 ≤ c - a) (h4 : c - a ≤ 1000) (h5 : 0 ≤ d - b) (h6 : d - b ≤ 1000) (hN : (c - a) * (d - b) = N) (n cp : Nat) (Z : Option Addr) (zs : List Int) (w : World) (hr : Rd w w.heap.size Z n zs) :
    Calls Try.prog 15 #[.agg #[.int .i64 a, .int .i64 b, .int .i64 c, .int .i64 d], .int .i64 1, .slice Z n cp] w (MadeOut a b c d (c - a) N (byt N zs) w) :=
  made_any a b c d 1 (c - a) N N n cp Z zs (by decide) (by decide) h3 h4 h5 h6 hN (by omega) (by omega) w hr

set_option maxRecDepth 100000 in
theorem sgrayRead_any (a b c d : Int) (N : Nat) (h3 : 0 ≤ c - a) (h4 : c - a ≤ 1000) (h5 : 0 ≤ d - b) (h6 : d - b ≤ 1000) (hN : (c - a) * (d - b) = N) (n cp : Nat) (Z : Option Addr) (zs : List Int) (x y : Int) (w : World) (hr : Rd w w.heap.size Z n zs) :
    Calls Try.prog 9 #[.agg #[.int .i64 a, .int .i64 b, .int .i64 c, .int .i64 d], .slice Z n cp, .int .i64 x, .int .i64 y] w fun e w' => e = .returned (.int .i64 (rdAt (byt N zs) a b c d x y)) ∧ Below w.heap.size w w' := by
  have kN := area_le h3 h4 h5 h6 hN
  have HR := Lib.hid hr
  have b0 : Below w.heap.size w (w.alloc (.cells #[.int .i64 a, .int .i64 b, .int .i64 c, .int .i64 d] 25)) := (Below.refl _ _).alloc (Nat.le_refl _) _
  by_cases hin : In a b c d x y
  · obtain ⟨o, ho, hoN⟩ := place_lt hN hin
    have ER := Lib.hid (rdAt_in (bs := byt N zs) hin ho)
    have HN := Lib.hid hN
    have HO := Lib.hid (show (y - b) * (c - a) + (x - a) * 1 = (o : Int) by rw [Int.mul_one]; exact ho)
    have HIN := Lib.hid hin
    clear hN hr ho hin
    go_enter Try.func9, Try.ntmps9
    go_wp2_with fail
    refine (sHas_yes _ _ _ _ _ _ HIN.out _).mono ?_
    rintro e w1 ⟨rfl, b1⟩
    obtain ⟨hc1, _⟩ := bcell b1
    have z1 : w.heap.size < w1.heap.size := Nat.lt_of_lt_of_le (by simp) b1.size
    have bw1 : Below w.heap.size w w1 := b0.trans (b1.mono b0.size)
    have c0 : w1.cell? ⟨w.heap.size, 0, none⟩ = some (.int .i64 a) := by rw [hc1 w.heap.size 0 (by simp)]; simp
    have c1 : w1.cell? ⟨w.heap.size, 1, none⟩ = some (.int .i64 b) := by rw [hc1 w.heap.size 1 (by simp)]; simp
    have c2 : w1.cell? ⟨w.heap.size, 2, none⟩ = some (.int .i64 c) := by rw [hc1 w.heap.size 2 (by simp)]; simp
    have c3 : w1.cell? ⟨w.heap.size, 3, none⟩ = some (.int .i64 d) := by rw [hc1 w.heap.size 3 (by simp)]; simp
    clear hc1
    go_wp2_with fail
    refine (made_gray a b c d N h3 h4 h5 h6 HN.out n cp Z zs _ (by exact (HR.out.below bw1).more bw1.size)).mono ?_
    rintro e w2 ⟨g, rfl, hg, hp, b2⟩
    have bw2 : Below w.heap.size w w2 := bw1.trans (b2.mono bw1.size)
    have d0 := (b2.cell (p := ⟨w.heap.size, 0, none⟩) z1).trans c0
    have d1 := (b2.cell (p := ⟨w.heap.size, 1, none⟩) z1).trans c1
    have d2 := (b2.cell (p := ⟨w.heap.size, 2, none⟩) z1).trans c2
    have d3 := (b2.cell (p := ⟨w.heap.size, 3, none⟩) z1).trans c3
    have x1 := hp.cell (i := o) (by rw [byt_length]; exact hoN)
    have lg := hp.lt
    have z2 : w.heap.size < w2.heap.size := Nat.lt_of_lt_of_le z1 b2.size
    have n1 : ¬ w.heap.size = w2.heap.size := by omega
    have n2 : ¬ g = w2.heap.size := by omega
    have hoI : (o : Int) < (N : Int) := by omega
    obtain ⟨i1, i2, i3, i4⟩ := HIN.out
    generalize hv : (byt N zs).getD o 0 = v at x1
    have HV := Lib.hid (ER.out.trans hv)
    clear hv c0 c1 c2 c3 hp b1 b2 HR hg ER
    have z3 : w.heap.size < w2.heap.size + 1 := by omega
    have z4 : g < w2.heap.size + 1 := by omega
    have z5 : w2.heap.size < w2.heap.size + 1 := by omega
    go_wp2_with fail
    go_region_held3 (fun w' => w'.cell? ⟨w.heap.size, 0, none⟩ = some (.int .i64 a) ∧ w'.cell? ⟨w.heap.size, 1, none⟩ = some (.int .i64 b) ∧ w'.cell? ⟨w.heap.size, 2, none⟩ = some (.int .i64 c) ∧ w'.cell? ⟨w.heap.size, 3, none⟩ = some (.int .i64 d) ∧ w'.cell? ⟨w2.heap.size, 4, none⟩ = some (.int .i64 (c - a)) ∧ w'.cell? ⟨w2.heap.size, 5, none⟩ = some (.slice (some ⟨g, 0, none⟩) N N) ∧ w'.cell? ⟨g, o, none⟩ = some (.int .i64 v)) (go_keep)
      (first | (go_at_call 16; refine (place_any _ _ _ _ _ _ _ _ (o : Int) (by omega) (by omega) (by omega) (by omega) (by omega) (by omega) (by omega) (by omega) HO.out _).mono ?_; rintro e wp ⟨rfl, bp⟩; obtain ⟨hcp, _⟩ := bcell bp))
    go_wp2
    go_ret
    have b9 : Below w.heap.size w (w2.alloc (.cells #[.int .i64 a, .int .i64 b, .int .i64 c, .int .i64 d, .int .i64 (c - a), .slice (some ⟨g, 0, none⟩) N N] 31)) := bw2.alloc bw2.size _
    refine ⟨?_, b9.drew.trans (bp.mono b9.size)⟩
    rw [HV.out]; rfl
  · have ER := Lib.hid (rdAt_out (bs := byt N zs) hin)
    have HIN := Lib.hid hin
    clear hN hr hin
    go_enter Try.func9, Try.ntmps9
    go_wp2_with fail
    refine (sHas_no _ _ _ _ _ _ HIN.out _).mono ?_
    rintro e w1 ⟨rfl, b1⟩
    go_wp2_with fail
    go_ret
    refine ⟨?_, b0.trans (b1.mono b0.size)⟩
    rw [ER.out]; rfl

/-- Numbers put one behind the other, modulo 256. -/
def puts (bs : List Int) (o : Nat) : List Int → List Int
  | [] => bs
  | c :: cs => puts (bs.set o (c % 256)) (o + 1) cs
theorem puts_snoc (bs : List Int) (o : Nat) (cs : List Int) (c : Int) : puts bs o (cs ++ [c]) = (puts bs o cs).set (o + cs.length) (c % 256) := by
  induction cs generalizing bs o with
  | nil => simp [puts]
  | cons x cs ih => simp only [List.cons_append, puts, ih, List.length_cons]; congr 1; omega
theorem puts_length (bs : List Int) (o : Nat) (cs : List Int) : (puts bs o cs).length = bs.length := by
  induction cs generalizing bs o with
  | nil => rfl
  | cons x cs ih => simp [puts, ih]

end Go.Proofs.Ytgefbnnipcbbiaa

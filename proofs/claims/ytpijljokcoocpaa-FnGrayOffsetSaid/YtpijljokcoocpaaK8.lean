/-
  Walks of laws on gray images: the offset of a pixel. No condition.
-/
import Derived.Test.YtpijljokcoocpaaK1
import Derived.Test.YtpijljokcoocpaaK0
import Derived.Test.YtpijljokcoocpaaPL
namespace Go.Proofs.Ytpijljokcoocpaa
open Go.ChangeShapes Go.WideShapes Go.ChangeAt Go.RowKit
set_option linter.unusedVariables false
set_option linter.unusedSimpArgs false

set_option maxRecDepth 100000 in
set_option maxHeartbeats 4000000 in
theorem fnGrayOffset_walk (w : World) (q : Q4) (hq : q.ok) (x : Int) (hx : I64 x) (y : Int) (hy : I64 y) :
    Calls Try.prog 7 #[q.val, .int .i64 x, .int .i64 y] w fun e w' => e = .returned (.bool true) ∧ Below w.heap.size w w' := by
  obtain ⟨a, b, c, d⟩ := q
  obtain ⟨ha, hb, hc, hd⟩ := hq
  show Calls Try.prog 7 #[.agg #[.int .i64 a, .int .i64 b, .int .i64 c, .int .i64 d], .int .i64 x, .int .i64 y] w _
  have hrs := rect_same a b c d
  have hrd := rect_diff a b c d
  have hp0 := fun st v => pfld0 a b c d st v
  have hp2 := fun st A n cp => pfld2 a b c d st A n cp
  by_cases hf : Fine a b c d
  · obtain ⟨h3, h4, h5, h6, N, hN⟩ := fine_area hf
    have HF := Lib.hid hf
    have HN := Lib.hid hN
    clear hf
    by_cases hin : In a b c d x y
    · obtain ⟨o1, ho1, hl1⟩ := place_lt hN hin
      have kN := area_le h3 h4 h5 h6 hN
      have hin' := hin
      obtain ⟨i1, i2, i3, i4⟩ := hin'
      have k1 : 0 ≤ (y - b) * (c - a) := Int.mul_nonneg (by omega) (by omega)
      have k2 : (y - b) * (c - a) ≤ 1000 * 4000 := Int.mul_le_mul (by omega) (by omega) (by omega) (by decide)
      have e1 : IntKind.i64.wrap (y - b) = y - b := IntWalk.i64_in _ ⟨by omega, by omega⟩
      have e2 : IntKind.i64.wrap ((y - b) * (c - a)) = (y - b) * (c - a) := IntWalk.i64_in _ ⟨by omega, by omega⟩
      have e3 : IntKind.i64.wrap (x - a) = x - a := IntWalk.i64_in _ ⟨by omega, by omega⟩
      have e4 : IntKind.i64.wrap ((x - a) * 1) = x - a := by rw [Int.mul_one]; exact e3
      have e5 : IntKind.i64.wrap ((y - b) * (c - a) + (x - a)) = o1 := by rw [ho1]; exact IntWalk.i64_in _ ⟨by omega, by omega⟩
      clear k1 k2 i1 i2 i3 i4
      have HI := Lib.hid hin
      clear hin
      have HO1 := Lib.hid ho1
      clear ho1
      clear hN
      go_enter Try.func7, Try.ntmps7
      go_wp2_with fail
      refine (toRect4 _ _ _ _ _).mono ?_
      rintro e w1 ⟨rfl, b1⟩
      have z0 : w.heap.size < w1.heap.size := Nat.lt_of_lt_of_le (by simp) b1.size
      have z1 : w.heap.size < w1.heap.size + 1 := by omega
      have z2 : ¬ w.heap.size = w1.heap.size := by omega
      have z3 : w1.heap.size < w1.heap.size + 1 := by omega
      obtain ⟨hc1, _⟩ := bcell b1
      have c0 : w1.cell? ⟨w.heap.size, 0, none⟩ = some (.int .i64 a) := by rw [hc1 w.heap.size 0 (by simp)]; simp
      have c1 : w1.cell? ⟨w.heap.size, 1, none⟩ = some (.int .i64 b) := by rw [hc1 w.heap.size 1 (by simp)]; simp
      have c2 : w1.cell? ⟨w.heap.size, 2, none⟩ = some (.int .i64 c) := by rw [hc1 w.heap.size 2 (by simp)]; simp
      have c3 : w1.cell? ⟨w.heap.size, 3, none⟩ = some (.int .i64 d) := by rw [hc1 w.heap.size 3 (by simp)]; simp
      have bw0 : Below w.heap.size w w1 := ((Below.refl _ _).alloc (Nat.le_refl _) _).trans (b1.mono (by simp))
      have bw : Below w.heap.size w (w1.alloc (.cells #[.int .i64 a, .int .i64 b, .int .i64 c, .int .i64 d] 26)) := bw0.alloc bw0.size _
      clear hc1 b1
      go_wp2_with fail
      have c0 : (w1.alloc (.cells #[.int .i64 a, .int .i64 b, .int .i64 c, .int .i64 d] 26)).cell? ⟨w.heap.size, 0, none⟩ = some (.int .i64 a) := (World.cell?_alloc_lt w1 _ ⟨w.heap.size, 0, none⟩ z0).trans c0
      have c1 : (w1.alloc (.cells #[.int .i64 a, .int .i64 b, .int .i64 c, .int .i64 d] 26)).cell? ⟨w.heap.size, 1, none⟩ = some (.int .i64 b) := (World.cell?_alloc_lt w1 _ ⟨w.heap.size, 1, none⟩ z0).trans c1
      have c2 : (w1.alloc (.cells #[.int .i64 a, .int .i64 b, .int .i64 c, .int .i64 d] 26)).cell? ⟨w.heap.size, 2, none⟩ = some (.int .i64 c) := (World.cell?_alloc_lt w1 _ ⟨w.heap.size, 2, none⟩ z0).trans c2
      have c3 : (w1.alloc (.cells #[.int .i64 a, .int .i64 b, .int .i64 c, .int .i64 d] 26)).cell? ⟨w.heap.size, 3, none⟩ = some (.int .i64 d) := (World.cell?_alloc_lt w1 _ ⟨w.heap.size, 3, none⟩ z0).trans c3
      have q0 : (w1.alloc (.cells #[.int .i64 a, .int .i64 b, .int .i64 c, .int .i64 d] 26)).cell? ⟨w1.heap.size, 0, none⟩ = some (.int .i64 a) := by simp
      have q1 : (w1.alloc (.cells #[.int .i64 a, .int .i64 b, .int .i64 c, .int .i64 d] 26)).cell? ⟨w1.heap.size, 1, none⟩ = some (.int .i64 b) := by simp
      have q2 : (w1.alloc (.cells #[.int .i64 a, .int .i64 b, .int .i64 c, .int .i64 d] 26)).cell? ⟨w1.heap.size, 2, none⟩ = some (.int .i64 c) := by simp
      have q3 : (w1.alloc (.cells #[.int .i64 a, .int .i64 b, .int .i64 c, .int .i64 d] 26)).cell? ⟨w1.heap.size, 3, none⟩ = some (.int .i64 d) := by simp
      have zb : w.heap.size < (w1.alloc (.cells #[.int .i64 a, .int .i64 b, .int .i64 c, .int .i64 d] 26)).heap.size := by simpa using z1
      have zq : w1.heap.size < (w1.alloc (.cells #[.int .i64 a, .int .i64 b, .int .i64 c, .int .i64 d] 26)).heap.size := by simp
      go_wp2_with fail
      refine (fine_yes _ _ _ _ HF.out _).mono ?_
      rintro e wbf ⟨rfl, bf⟩
      replace c0 := (bf.cell (p := ⟨w.heap.size, 0, none⟩) zb).trans c0
      replace c1 := (bf.cell (p := ⟨w.heap.size, 1, none⟩) zb).trans c1
      replace c2 := (bf.cell (p := ⟨w.heap.size, 2, none⟩) zb).trans c2
      replace c3 := (bf.cell (p := ⟨w.heap.size, 3, none⟩) zb).trans c3
      replace q0 := (bf.cell (p := ⟨w1.heap.size, 0, none⟩) zq).trans q0
      replace q1 := (bf.cell (p := ⟨w1.heap.size, 1, none⟩) zq).trans q1
      replace q2 := (bf.cell (p := ⟨w1.heap.size, 2, none⟩) zq).trans q2
      replace q3 := (bf.cell (p := ⟨w1.heap.size, 3, none⟩) zq).trans q3
      replace zb := Nat.lt_of_lt_of_le zb bf.size
      replace zq := Nat.lt_of_lt_of_le zq bf.size
      replace bw := bw.trans (bf.mono bw.size)
      go_wp2_with fail
      refine (has_yes _ _ _ _ _ _ HI.out _).mono ?_
      rintro e wbh ⟨rfl, bh⟩
      replace c0 := (bh.cell (p := ⟨w.heap.size, 0, none⟩) zb).trans c0
      replace c1 := (bh.cell (p := ⟨w.heap.size, 1, none⟩) zb).trans c1
      replace c2 := (bh.cell (p := ⟨w.heap.size, 2, none⟩) zb).trans c2
      replace c3 := (bh.cell (p := ⟨w.heap.size, 3, none⟩) zb).trans c3
      replace q0 := (bh.cell (p := ⟨w1.heap.size, 0, none⟩) zq).trans q0
      replace q1 := (bh.cell (p := ⟨w1.heap.size, 1, none⟩) zq).trans q1
      replace q2 := (bh.cell (p := ⟨w1.heap.size, 2, none⟩) zq).trans q2
      replace q3 := (bh.cell (p := ⟨w1.heap.size, 3, none⟩) zq).trans q3
      replace zb := Nat.lt_of_lt_of_le zb bh.size
      replace zq := Nat.lt_of_lt_of_le zq bh.size
      replace bw := bw.trans (bh.mono bw.size)
      go_wp2_with fail
      refine (grayNew_any a b c d N h3 h4 h5 h6 HN.out _).mono ?_
      rintro e wbg ⟨A1, cp1, rfl, r1, lo1, bg⟩
      replace c0 := (bg.cell (p := ⟨w.heap.size, 0, none⟩) zb).trans c0
      replace c1 := (bg.cell (p := ⟨w.heap.size, 1, none⟩) zb).trans c1
      replace c2 := (bg.cell (p := ⟨w.heap.size, 2, none⟩) zb).trans c2
      replace c3 := (bg.cell (p := ⟨w.heap.size, 3, none⟩) zb).trans c3
      replace q0 := (bg.cell (p := ⟨w1.heap.size, 0, none⟩) zq).trans q0
      replace q1 := (bg.cell (p := ⟨w1.heap.size, 1, none⟩) zq).trans q1
      replace q2 := (bg.cell (p := ⟨w1.heap.size, 2, none⟩) zq).trans q2
      replace q3 := (bg.cell (p := ⟨w1.heap.size, 3, none⟩) zq).trans q3
      replace zb := Nat.lt_of_lt_of_le zb bg.size
      replace zq := Nat.lt_of_lt_of_le zq bg.size
      replace bw := bw.trans (bg.mono bw.size)
      go_wp2_with fail
      have zp : wbg.heap.size < (wbg.alloc (.cells #[.int .i64 a, .int .i64 b, .int .i64 c, .int .i64 d, .int .i64 (c - a), .slice A1 N cp1] 29)).heap.size := by simp
      have al : Below wbg.heap.size wbg (wbg.alloc (.cells #[.int .i64 a, .int .i64 b, .int .i64 c, .int .i64 d, .int .i64 (c - a), .slice A1 N cp1] 29)) := (Below.refl _ _).alloc (Nat.le_refl _) _
      replace c0 := (al.cell (p := ⟨w.heap.size, 0, none⟩) zb).trans c0
      replace c1 := (al.cell (p := ⟨w.heap.size, 1, none⟩) zb).trans c1
      replace c2 := (al.cell (p := ⟨w.heap.size, 2, none⟩) zb).trans c2
      replace c3 := (al.cell (p := ⟨w.heap.size, 3, none⟩) zb).trans c3
      replace q0 := (al.cell (p := ⟨w1.heap.size, 0, none⟩) zq).trans q0
      replace q1 := (al.cell (p := ⟨w1.heap.size, 1, none⟩) zq).trans q1
      replace q2 := (al.cell (p := ⟨w1.heap.size, 2, none⟩) zq).trans q2
      replace q3 := (al.cell (p := ⟨w1.heap.size, 3, none⟩) zq).trans q3
      have p0 : (wbg.alloc (.cells #[.int .i64 a, .int .i64 b, .int .i64 c, .int .i64 d, .int .i64 (c - a), .slice A1 N cp1] 29)).cell? ⟨wbg.heap.size, 0, none⟩ = some (.int .i64 a) := by simp
      have p1 : (wbg.alloc (.cells #[.int .i64 a, .int .i64 b, .int .i64 c, .int .i64 d, .int .i64 (c - a), .slice A1 N cp1] 29)).cell? ⟨wbg.heap.size, 1, none⟩ = some (.int .i64 b) := by simp
      have p2 : (wbg.alloc (.cells #[.int .i64 a, .int .i64 b, .int .i64 c, .int .i64 d, .int .i64 (c - a), .slice A1 N cp1] 29)).cell? ⟨wbg.heap.size, 2, none⟩ = some (.int .i64 c) := by simp
      have p3 : (wbg.alloc (.cells #[.int .i64 a, .int .i64 b, .int .i64 c, .int .i64 d, .int .i64 (c - a), .slice A1 N cp1] 29)).cell? ⟨wbg.heap.size, 3, none⟩ = some (.int .i64 d) := by simp
      have p4 : (wbg.alloc (.cells #[.int .i64 a, .int .i64 b, .int .i64 c, .int .i64 d, .int .i64 (c - a), .slice A1 N cp1] 29)).cell? ⟨wbg.heap.size, 4, none⟩ = some (.int .i64 (c - a)) := by simp
      have p5 : (wbg.alloc (.cells #[.int .i64 a, .int .i64 b, .int .i64 c, .int .i64 d, .int .i64 (c - a), .slice A1 N cp1] 29)).cell? ⟨wbg.heap.size, 5, none⟩ = some (.slice A1 N cp1) := by simp
      replace zb := Nat.lt_of_lt_of_le zb al.size
      replace zq := Nat.lt_of_lt_of_le zq al.size
      replace bw := bw.trans (al.mono bw.size)
      have zb1 : w.heap.size < wbg.heap.size + 1 := by simpa using zb
      have zq1 : w1.heap.size < wbg.heap.size + 1 := by simpa using zq
      clear al r1 lo1
      go_region_held3 (fun w' => w'.cell? ⟨w.heap.size, 0, none⟩ = some (.int .i64 a) ∧ w'.cell? ⟨w.heap.size, 1, none⟩ = some (.int .i64 b) ∧ w'.cell? ⟨w.heap.size, 2, none⟩ = some (.int .i64 c) ∧ w'.cell? ⟨w.heap.size, 3, none⟩ = some (.int .i64 d) ∧ w'.cell? ⟨w1.heap.size, 0, none⟩ = some (.int .i64 a) ∧ w'.cell? ⟨w1.heap.size, 1, none⟩ = some (.int .i64 b) ∧ w'.cell? ⟨w1.heap.size, 2, none⟩ = some (.int .i64 c) ∧ w'.cell? ⟨w1.heap.size, 3, none⟩ = some (.int .i64 d) ∧ w'.cell? ⟨wbg.heap.size, 0, none⟩ = some (.int .i64 a) ∧ w'.cell? ⟨wbg.heap.size, 1, none⟩ = some (.int .i64 b) ∧ w'.cell? ⟨wbg.heap.size, 2, none⟩ = some (.int .i64 c) ∧ w'.cell? ⟨wbg.heap.size, 3, none⟩ = some (.int .i64 d) ∧ w'.cell? ⟨wbg.heap.size, 4, none⟩ = some (.int .i64 (c - a)) ∧ w'.cell? ⟨wbg.heap.size, 5, none⟩ = some (.slice A1 N cp1)) (go_keep)
        (first
              | (go_at_call 31; refine (grayOffset_any a b c d N h3 h4 h5 h6 HN.out x y o1 HI.out HO1.out _).mono ?_; rintro e wbr ⟨rfl, br⟩; (first | have hcbr := bcelld br | have hcbr := bcellx br); have zbr0 : w.heap.size < wbr.heap.size := Nat.lt_of_lt_of_le (by first | assumption | exact zb | exact zq | exact zp | (simp; omega) | simp) br.size; have zbr1 : w1.heap.size < wbr.heap.size := Nat.lt_of_lt_of_le (by first | assumption | exact zb | exact zq | exact zp | (simp; omega) | simp) br.size; have zbr2 : wbg.heap.size < wbr.heap.size := Nat.lt_of_lt_of_le (by first | assumption | exact zb | exact zq | exact zp | (simp; omega) | simp) br.size; have bw : Below w.heap.size w wbr := (by first | exact bw.trans (br.mono bw.size) | exact bw.drew.trans (br.mono bw.size)))
              | (go_at_call 32; refine (sgrayOffset_any a b c d x y o1 h4 h6 HI.out HO1.out _).mono ?_; rintro e wbs ⟨rfl, bs⟩; (first | have hcbs := bcelld bs | have hcbs := bcellx bs); have zbs0 : w.heap.size < wbs.heap.size := Nat.lt_of_lt_of_le (by first | assumption | exact zb | exact zq | exact zp | (simp; omega) | simp) bs.size; have zbs1 : w1.heap.size < wbs.heap.size := Nat.lt_of_lt_of_le (by first | assumption | exact zb | exact zq | exact zp | (simp; omega) | simp) bs.size; have zbs2 : wbg.heap.size < wbs.heap.size := Nat.lt_of_lt_of_le (by first | assumption | exact zb | exact zq | exact zp | (simp; omega) | simp) bs.size; have bw : Below w.heap.size w wbs := (by first | exact bw.trans (bs.mono bw.size) | exact bw.drew.trans (bs.mono bw.size))))
      go_wp2
      go_ret
      exact ⟨rfl, bw⟩
    · have HI := Lib.hid hin
      clear hin hN
      go_enter Try.func7, Try.ntmps7
      go_wp2_with fail
      refine (toRect4 _ _ _ _ _).mono ?_
      rintro e w1 ⟨rfl, b1⟩
      have z0 : w.heap.size < w1.heap.size := Nat.lt_of_lt_of_le (by simp) b1.size
      have z1 : w.heap.size < w1.heap.size + 1 := by omega
      have z2 : ¬ w.heap.size = w1.heap.size := by omega
      have z3 : w1.heap.size < w1.heap.size + 1 := by omega
      obtain ⟨hc1, _⟩ := bcell b1
      have c0 : w1.cell? ⟨w.heap.size, 0, none⟩ = some (.int .i64 a) := by rw [hc1 w.heap.size 0 (by simp)]; simp
      have c1 : w1.cell? ⟨w.heap.size, 1, none⟩ = some (.int .i64 b) := by rw [hc1 w.heap.size 1 (by simp)]; simp
      have c2 : w1.cell? ⟨w.heap.size, 2, none⟩ = some (.int .i64 c) := by rw [hc1 w.heap.size 2 (by simp)]; simp
      have c3 : w1.cell? ⟨w.heap.size, 3, none⟩ = some (.int .i64 d) := by rw [hc1 w.heap.size 3 (by simp)]; simp
      have bw0 : Below w.heap.size w w1 := ((Below.refl _ _).alloc (Nat.le_refl _) _).trans (b1.mono (by simp))
      have bw : Below w.heap.size w (w1.alloc (.cells #[.int .i64 a, .int .i64 b, .int .i64 c, .int .i64 d] 26)) := bw0.alloc bw0.size _
      clear hc1 b1
      go_wp2_with fail
      have c0 : (w1.alloc (.cells #[.int .i64 a, .int .i64 b, .int .i64 c, .int .i64 d] 26)).cell? ⟨w.heap.size, 0, none⟩ = some (.int .i64 a) := (World.cell?_alloc_lt w1 _ ⟨w.heap.size, 0, none⟩ z0).trans c0
      have c1 : (w1.alloc (.cells #[.int .i64 a, .int .i64 b, .int .i64 c, .int .i64 d] 26)).cell? ⟨w.heap.size, 1, none⟩ = some (.int .i64 b) := (World.cell?_alloc_lt w1 _ ⟨w.heap.size, 1, none⟩ z0).trans c1
      have c2 : (w1.alloc (.cells #[.int .i64 a, .int .i64 b, .int .i64 c, .int .i64 d] 26)).cell? ⟨w.heap.size, 2, none⟩ = some (.int .i64 c) := (World.cell?_alloc_lt w1 _ ⟨w.heap.size, 2, none⟩ z0).trans c2
      have c3 : (w1.alloc (.cells #[.int .i64 a, .int .i64 b, .int .i64 c, .int .i64 d] 26)).cell? ⟨w.heap.size, 3, none⟩ = some (.int .i64 d) := (World.cell?_alloc_lt w1 _ ⟨w.heap.size, 3, none⟩ z0).trans c3
      have q0 : (w1.alloc (.cells #[.int .i64 a, .int .i64 b, .int .i64 c, .int .i64 d] 26)).cell? ⟨w1.heap.size, 0, none⟩ = some (.int .i64 a) := by simp
      have q1 : (w1.alloc (.cells #[.int .i64 a, .int .i64 b, .int .i64 c, .int .i64 d] 26)).cell? ⟨w1.heap.size, 1, none⟩ = some (.int .i64 b) := by simp
      have q2 : (w1.alloc (.cells #[.int .i64 a, .int .i64 b, .int .i64 c, .int .i64 d] 26)).cell? ⟨w1.heap.size, 2, none⟩ = some (.int .i64 c) := by simp
      have q3 : (w1.alloc (.cells #[.int .i64 a, .int .i64 b, .int .i64 c, .int .i64 d] 26)).cell? ⟨w1.heap.size, 3, none⟩ = some (.int .i64 d) := by simp
      have zb : w.heap.size < (w1.alloc (.cells #[.int .i64 a, .int .i64 b, .int .i64 c, .int .i64 d] 26)).heap.size := by simpa using z1
      have zq : w1.heap.size < (w1.alloc (.cells #[.int .i64 a, .int .i64 b, .int .i64 c, .int .i64 d] 26)).heap.size := by simp
      go_wp2_with fail
      refine (fine_yes _ _ _ _ HF.out _).mono ?_
      rintro e wbf ⟨rfl, bf⟩
      replace c0 := (bf.cell (p := ⟨w.heap.size, 0, none⟩) zb).trans c0
      replace c1 := (bf.cell (p := ⟨w.heap.size, 1, none⟩) zb).trans c1
      replace c2 := (bf.cell (p := ⟨w.heap.size, 2, none⟩) zb).trans c2
      replace c3 := (bf.cell (p := ⟨w.heap.size, 3, none⟩) zb).trans c3
      replace q0 := (bf.cell (p := ⟨w1.heap.size, 0, none⟩) zq).trans q0
      replace q1 := (bf.cell (p := ⟨w1.heap.size, 1, none⟩) zq).trans q1
      replace q2 := (bf.cell (p := ⟨w1.heap.size, 2, none⟩) zq).trans q2
      replace q3 := (bf.cell (p := ⟨w1.heap.size, 3, none⟩) zq).trans q3
      replace zb := Nat.lt_of_lt_of_le zb bf.size
      replace zq := Nat.lt_of_lt_of_le zq bf.size
      replace bw := bw.trans (bf.mono bw.size)
      go_wp2_with fail
      refine (has_no _ _ _ _ _ _ HI.out _).mono ?_
      rintro e wbh ⟨rfl, bh⟩
      replace c0 := (bh.cell (p := ⟨w.heap.size, 0, none⟩) zb).trans c0
      replace c1 := (bh.cell (p := ⟨w.heap.size, 1, none⟩) zb).trans c1
      replace c2 := (bh.cell (p := ⟨w.heap.size, 2, none⟩) zb).trans c2
      replace c3 := (bh.cell (p := ⟨w.heap.size, 3, none⟩) zb).trans c3
      replace q0 := (bh.cell (p := ⟨w1.heap.size, 0, none⟩) zq).trans q0
      replace q1 := (bh.cell (p := ⟨w1.heap.size, 1, none⟩) zq).trans q1
      replace q2 := (bh.cell (p := ⟨w1.heap.size, 2, none⟩) zq).trans q2
      replace q3 := (bh.cell (p := ⟨w1.heap.size, 3, none⟩) zq).trans q3
      replace zb := Nat.lt_of_lt_of_le zb bh.size
      replace zq := Nat.lt_of_lt_of_le zq bh.size
      replace bw := bw.trans (bh.mono bw.size)
      go_wp2_with fail
      go_ret
      exact ⟨rfl, bw⟩
  · have HF := Lib.hid hf
    clear hf
    go_enter Try.func7, Try.ntmps7
    go_wp2_with fail
    refine (toRect4 _ _ _ _ _).mono ?_
    rintro e w1 ⟨rfl, b1⟩
    have z0 : w.heap.size < w1.heap.size := Nat.lt_of_lt_of_le (by simp) b1.size
    have z1 : w.heap.size < w1.heap.size + 1 := by omega
    have z2 : ¬ w.heap.size = w1.heap.size := by omega
    have z3 : w1.heap.size < w1.heap.size + 1 := by omega
    obtain ⟨hc1, _⟩ := bcell b1
    have c0 : w1.cell? ⟨w.heap.size, 0, none⟩ = some (.int .i64 a) := by rw [hc1 w.heap.size 0 (by simp)]; simp
    have c1 : w1.cell? ⟨w.heap.size, 1, none⟩ = some (.int .i64 b) := by rw [hc1 w.heap.size 1 (by simp)]; simp
    have c2 : w1.cell? ⟨w.heap.size, 2, none⟩ = some (.int .i64 c) := by rw [hc1 w.heap.size 2 (by simp)]; simp
    have c3 : w1.cell? ⟨w.heap.size, 3, none⟩ = some (.int .i64 d) := by rw [hc1 w.heap.size 3 (by simp)]; simp
    have bw0 : Below w.heap.size w w1 := ((Below.refl _ _).alloc (Nat.le_refl _) _).trans (b1.mono (by simp))
    have bw : Below w.heap.size w (w1.alloc (.cells #[.int .i64 a, .int .i64 b, .int .i64 c, .int .i64 d] 26)) := bw0.alloc bw0.size _
    clear hc1 b1
    go_wp2_with fail
    have c0 : (w1.alloc (.cells #[.int .i64 a, .int .i64 b, .int .i64 c, .int .i64 d] 26)).cell? ⟨w.heap.size, 0, none⟩ = some (.int .i64 a) := (World.cell?_alloc_lt w1 _ ⟨w.heap.size, 0, none⟩ z0).trans c0
    have c1 : (w1.alloc (.cells #[.int .i64 a, .int .i64 b, .int .i64 c, .int .i64 d] 26)).cell? ⟨w.heap.size, 1, none⟩ = some (.int .i64 b) := (World.cell?_alloc_lt w1 _ ⟨w.heap.size, 1, none⟩ z0).trans c1
    have c2 : (w1.alloc (.cells #[.int .i64 a, .int .i64 b, .int .i64 c, .int .i64 d] 26)).cell? ⟨w.heap.size, 2, none⟩ = some (.int .i64 c) := (World.cell?_alloc_lt w1 _ ⟨w.heap.size, 2, none⟩ z0).trans c2
    have c3 : (w1.alloc (.cells #[.int .i64 a, .int .i64 b, .int .i64 c, .int .i64 d] 26)).cell? ⟨w.heap.size, 3, none⟩ = some (.int .i64 d) := (World.cell?_alloc_lt w1 _ ⟨w.heap.size, 3, none⟩ z0).trans c3
    have q0 : (w1.alloc (.cells #[.int .i64 a, .int .i64 b, .int .i64 c, .int .i64 d] 26)).cell? ⟨w1.heap.size, 0, none⟩ = some (.int .i64 a) := by simp
    have q1 : (w1.alloc (.cells #[.int .i64 a, .int .i64 b, .int .i64 c, .int .i64 d] 26)).cell? ⟨w1.heap.size, 1, none⟩ = some (.int .i64 b) := by simp
    have q2 : (w1.alloc (.cells #[.int .i64 a, .int .i64 b, .int .i64 c, .int .i64 d] 26)).cell? ⟨w1.heap.size, 2, none⟩ = some (.int .i64 c) := by simp
    have q3 : (w1.alloc (.cells #[.int .i64 a, .int .i64 b, .int .i64 c, .int .i64 d] 26)).cell? ⟨w1.heap.size, 3, none⟩ = some (.int .i64 d) := by simp
    have zb : w.heap.size < (w1.alloc (.cells #[.int .i64 a, .int .i64 b, .int .i64 c, .int .i64 d] 26)).heap.size := by simpa using z1
    have zq : w1.heap.size < (w1.alloc (.cells #[.int .i64 a, .int .i64 b, .int .i64 c, .int .i64 d] 26)).heap.size := by simp
    go_wp2_with fail
    refine (fine_no _ _ _ _ ha hb hc hd HF.out _).mono ?_
    rintro e wbf ⟨rfl, bf⟩
    go_wp2_with fail
    go_ret
    exact ⟨rfl, bw.trans (bf.mono bw.size)⟩

end Go.Proofs.Ytpijljokcoocpaa

/-
  Walks of laws on gray images: no two pixels share a byte. No condition.
-/
import Derived.Test.YtpijljokcoocpaaK1
import Derived.Test.YtpijljokcoocpaaK0
import Derived.Test.YtpijljokcoocpaaPL
namespace Go.Proofs.Ytpijljokcoocpaa
open Go.ChangeShapes Go.WideShapes Go.ChangeAt Go.RowKit
set_option linter.unusedVariables false
set_option linter.unusedSimpArgs false

set_option maxRecDepth 100000 in
set_option maxHeartbeats 4000000 in
theorem fnGrayApart_walk (w : World) (q : Q4) (hq : q.ok) (x : Int) (hx : I64 x) (y : Int) (hy : I64 y) (u : Int) (hu : I64 u) (v : Int) (hv : I64 v) :
    Calls Try.prog 6 #[q.val, .int .i64 x, .int .i64 y, .int .i64 u, .int .i64 v] w fun e w' => e = .returned (.bool true) ∧ Below w.heap.size w w' := by
  obtain ⟨a, b, c, d⟩ := q
  obtain ⟨ha, hb, hc, hd⟩ := hq
  show Calls Try.prog 6 #[.agg #[.int .i64 a, .int .i64 b, .int .i64 c, .int .i64 d], .int .i64 x, .int .i64 y, .int .i64 u, .int .i64 v] w _
  have hrs := rect_same a b c d
  have hrd := rect_diff a b c d
  have hp0 := fun st v => pfld0 a b c d st v
  have hp2 := fun st A n cp => pfld2 a b c d st A n cp
  by_cases hf : Fine a b c d
  · obtain ⟨h3, h4, h5, h6, N, hN⟩ := fine_area hf
    have HF := Lib.hid hf
    have HN := Lib.hid hN
    clear hf
    by_cases hin : In a b c d x y
    · by_cases hjn : In a b c d u v
      · obtain ⟨o1, ho1, hl1⟩ := place_lt hN hin
        obtain ⟨o2, ho2, hl2⟩ := place_lt hN hjn
        have kN := area_le h3 h4 h5 h6 hN
        by_cases hxu : x = u ∧ y = v
        · obtain ⟨rfl, rfl⟩ := hxu
          obtain rfl : o1 = o2 := by omega
          have t1 : (x == x) = true := by simp
          have t2 : (y == y) = true := by simp
          have HI := Lib.hid hin
          clear hin
          have HJ := Lib.hid hjn
          clear hjn
          have HO1 := Lib.hid ho1
          clear ho1
          have HO2 := Lib.hid ho2
          clear ho2
          clear hN
          go_enter Try.func6, Try.ntmps6
          go_wp2_with fail
          refine (toRect4 _ _ _ _ _).mono ?_
          rintro e w1 ⟨rfl, b1⟩
          have z0 : w.heap.size < w1.heap.size := Nat.lt_of_lt_of_le (by simp) b1.size
          have z1 : w.heap.size < w1.heap.size + 1 := by omega
          have z2 : ¬ w.heap.size = w1.heap.size := by omega
          have z3 : w1.heap.size < w1.heap.size + 1 := by omega
          obtain ⟨hc1, _⟩ := bcell b1
          have c0 : w1.cell? ⟨w.heap.size, 0, none⟩ = some (.int .i64 a) := by rw [hc1 w.heap.size 0 (by simp)]; simp
          have c1 : w1.cell? ⟨w.heap.size, 1, none⟩ = some (.int .i64 b) := by rw [hc1 w.heap.size 1 (by simp)]; simp
          have c2 : w1.cell? ⟨w.heap.size, 2, none⟩ = some (.int .i64 c) := by rw [hc1 w.heap.size 2 (by simp)]; simp
          have c3 : w1.cell? ⟨w.heap.size, 3, none⟩ = some (.int .i64 d) := by rw [hc1 w.heap.size 3 (by simp)]; simp
          have bw0 : Below w.heap.size w w1 := ((Below.refl _ _).alloc (Nat.le_refl _) _).trans (b1.mono (by simp))
          have bw : Below w.heap.size w (w1.alloc (.cells #[.int .i64 a, .int .i64 b, .int .i64 c, .int .i64 d] 26)) := bw0.alloc bw0.size _
          clear hc1 b1
          go_wp2_with fail
          have c0 : (w1.alloc (.cells #[.int .i64 a, .int .i64 b, .int .i64 c, .int .i64 d] 26)).cell? ⟨w.heap.size, 0, none⟩ = some (.int .i64 a) := (World.cell?_alloc_lt w1 _ ⟨w.heap.size, 0, none⟩ z0).trans c0
          have c1 : (w1.alloc (.cells #[.int .i64 a, .int .i64 b, .int .i64 c, .int .i64 d] 26)).cell? ⟨w.heap.size, 1, none⟩ = some (.int .i64 b) := (World.cell?_alloc_lt w1 _ ⟨w.heap.size, 1, none⟩ z0).trans c1
          have c2 : (w1.alloc (.cells #[.int .i64 a, .int .i64 b, .int .i64 c, .int .i64 d] 26)).cell? ⟨w.heap.size, 2, none⟩ = some (.int .i64 c) := (World.cell?_alloc_lt w1 _ ⟨w.heap.size, 2, none⟩ z0).trans c2
          have c3 : (w1.alloc (.cells #[.int .i64 a, .int .i64 b, .int .i64 c, .int .i64 d] 26)).cell? ⟨w.heap.size, 3, none⟩ = some (.int .i64 d) := (World.cell?_alloc_lt w1 _ ⟨w.heap.size, 3, none⟩ z0).trans c3
          have q0 : (w1.alloc (.cells #[.int .i64 a, .int .i64 b, .int .i64 c, .int .i64 d] 26)).cell? ⟨w1.heap.size, 0, none⟩ = some (.int .i64 a) := by simp
          have q1 : (w1.alloc (.cells #[.int .i64 a, .int .i64 b, .int .i64 c, .int .i64 d] 26)).cell? ⟨w1.heap.size, 1, none⟩ = some (.int .i64 b) := by simp
          have q2 : (w1.alloc (.cells #[.int .i64 a, .int .i64 b, .int .i64 c, .int .i64 d] 26)).cell? ⟨w1.heap.size, 2, none⟩ = some (.int .i64 c) := by simp
          have q3 : (w1.alloc (.cells #[.int .i64 a, .int .i64 b, .int .i64 c, .int .i64 d] 26)).cell? ⟨w1.heap.size, 3, none⟩ = some (.int .i64 d) := by simp
          have zb : w.heap.size < (w1.alloc (.cells #[.int .i64 a, .int .i64 b, .int .i64 c, .int .i64 d] 26)).heap.size := by simpa using z1
          have zq : w1.heap.size < (w1.alloc (.cells #[.int .i64 a, .int .i64 b, .int .i64 c, .int .i64 d] 26)).heap.size := by simp
          go_wp2_with fail
          refine (fine_yes _ _ _ _ HF.out _).mono ?_
          rintro e wbf ⟨rfl, bf⟩
          replace c0 := (bf.cell (p := ⟨w.heap.size, 0, none⟩) zb).trans c0
          replace c1 := (bf.cell (p := ⟨w.heap.size, 1, none⟩) zb).trans c1
          replace c2 := (bf.cell (p := ⟨w.heap.size, 2, none⟩) zb).trans c2
          replace c3 := (bf.cell (p := ⟨w.heap.size, 3, none⟩) zb).trans c3
          replace q0 := (bf.cell (p := ⟨w1.heap.size, 0, none⟩) zq).trans q0
          replace q1 := (bf.cell (p := ⟨w1.heap.size, 1, none⟩) zq).trans q1
          replace q2 := (bf.cell (p := ⟨w1.heap.size, 2, none⟩) zq).trans q2
          replace q3 := (bf.cell (p := ⟨w1.heap.size, 3, none⟩) zq).trans q3
          replace zb := Nat.lt_of_lt_of_le zb bf.size
          replace zq := Nat.lt_of_lt_of_le zq bf.size
          replace bw := bw.trans (bf.mono bw.size)
          go_wp2_with fail
          refine (has_yes _ _ _ _ _ _ HI.out _).mono ?_
          rintro e wbh ⟨rfl, bh⟩
          replace c0 := (bh.cell (p := ⟨w.heap.size, 0, none⟩) zb).trans c0
          replace c1 := (bh.cell (p := ⟨w.heap.size, 1, none⟩) zb).trans c1
          replace c2 := (bh.cell (p := ⟨w.heap.size, 2, none⟩) zb).trans c2
          replace c3 := (bh.cell (p := ⟨w.heap.size, 3, none⟩) zb).trans c3
          replace q0 := (bh.cell (p := ⟨w1.heap.size, 0, none⟩) zq).trans q0
          replace q1 := (bh.cell (p := ⟨w1.heap.size, 1, none⟩) zq).trans q1
          replace q2 := (bh.cell (p := ⟨w1.heap.size, 2, none⟩) zq).trans q2
          replace q3 := (bh.cell (p := ⟨w1.heap.size, 3, none⟩) zq).trans q3
          replace zb := Nat.lt_of_lt_of_le zb bh.size
          replace zq := Nat.lt_of_lt_of_le zq bh.size
          replace bw := bw.trans (bh.mono bw.size)
          go_wp2_with fail
          refine (has_yes _ _ _ _ _ _ HJ.out _).mono ?_
          rintro e wbi ⟨rfl, bi⟩
          replace c0 := (bi.cell (p := ⟨w.heap.size, 0, none⟩) zb).trans c0
          replace c1 := (bi.cell (p := ⟨w.heap.size, 1, none⟩) zb).trans c1
          replace c2 := (bi.cell (p := ⟨w.heap.size, 2, none⟩) zb).trans c2
          replace c3 := (bi.cell (p := ⟨w.heap.size, 3, none⟩) zb).trans c3
          replace q0 := (bi.cell (p := ⟨w1.heap.size, 0, none⟩) zq).trans q0
          replace q1 := (bi.cell (p := ⟨w1.heap.size, 1, none⟩) zq).trans q1
          replace q2 := (bi.cell (p := ⟨w1.heap.size, 2, none⟩) zq).trans q2
          replace q3 := (bi.cell (p := ⟨w1.heap.size, 3, none⟩) zq).trans q3
          replace zb := Nat.lt_of_lt_of_le zb bi.size
          replace zq := Nat.lt_of_lt_of_le zq bi.size
          replace bw := bw.trans (bi.mono bw.size)
          go_wp2_with fail
          have tok1 : True := trivial
          go_region_held3 (fun w' => w'.cell? ⟨w.heap.size, 0, none⟩ = some (.int .i64 a) ∧ w'.cell? ⟨w.heap.size, 1, none⟩ = some (.int .i64 b) ∧ w'.cell? ⟨w.heap.size, 2, none⟩ = some (.int .i64 c) ∧ w'.cell? ⟨w.heap.size, 3, none⟩ = some (.int .i64 d) ∧ w'.cell? ⟨w1.heap.size, 0, none⟩ = some (.int .i64 a) ∧ w'.cell? ⟨w1.heap.size, 1, none⟩ = some (.int .i64 b) ∧ w'.cell? ⟨w1.heap.size, 2, none⟩ = some (.int .i64 c) ∧ w'.cell? ⟨w1.heap.size, 3, none⟩ = some (.int .i64 d)) (go_keep)
            (first
                  | (go_at_call 31; have _t := tok1; clear _t tok1; refine (grayOffset_any a b c d N h3 h4 h5 h6 HN.out x y o1 HI.out HO1.out _).mono ?_; rintro e wbr ⟨rfl, br⟩; (first | have hcbr := bcelld br | have hcbr := bcellx br); have zbr0 : w.heap.size < wbr.heap.size := Nat.lt_of_lt_of_le (by first | assumption | exact zb | exact zq | exact zp | (simp; omega) | simp) br.size; have zbr1 : w1.heap.size < wbr.heap.size := Nat.lt_of_lt_of_le (by first | assumption | exact zb | exact zq | exact zp | (simp; omega) | simp) br.size; have bw : Below w.heap.size w wbr := (by first | exact bw.trans (br.mono bw.size) | exact bw.drew.trans (br.mono bw.size)))
                  | (go_at_call 31; refine (grayOffset_any a b c d N h3 h4 h5 h6 HN.out x y o1 HJ.out HO2.out _).mono ?_; rintro e wbs ⟨rfl, bs⟩; (first | have hcbs := bcelld bs | have hcbs := bcellx bs); have zbs0 : w.heap.size < wbs.heap.size := Nat.lt_of_lt_of_le (by first | assumption | exact zb | exact zq | exact zp | (simp; omega) | simp) bs.size; have zbs1 : w1.heap.size < wbs.heap.size := Nat.lt_of_lt_of_le (by first | assumption | exact zb | exact zq | exact zp | (simp; omega) | simp) bs.size; have bw : Below w.heap.size w wbs := (by first | exact bw.trans (bs.mono bw.size) | exact bw.drew.trans (bs.mono bw.size))))
          have tN : (o1 : Int) + 1 ≤ (N : Int) := by omega
          go_wp2_with fail
          refine (grayNew_any a b c d N h3 h4 h5 h6 HN.out _).mono ?_
          rintro e w9 ⟨A1, cp1, rfl, r1, lo1, b9⟩
          replace bw := bw.trans (b9.mono bw.size)
          go_wp2_with fail
          go_ret
          exact ⟨rfl, bw⟩
        · have hne : o1 ≠ o2 := place_ne hin hjn hxu ho1 ho2
          have HI := Lib.hid hin
          clear hin
          have HJ := Lib.hid hjn
          clear hjn
          have HO1 := Lib.hid ho1
          clear ho1
          have HO2 := Lib.hid ho2
          clear ho2
          clear hN
          have hcase : (x == u) = false ∨ ((x == u) = true ∧ (y == v) = false) := by
            by_cases hx1 : x = u
            · right; exact ⟨by simp [hx1], by simp; exact fun hy1 => hxu ⟨hx1, hy1⟩⟩
            · left; simp [hx1]
          have hlt : (o1 : Int) + 1 ≤ o2 ∨ ¬ (o1 : Int) + 1 ≤ o2 ∧ (o2 : Int) + 1 ≤ o1 := by omega
          clear hxu hne
          rcases hcase with t1 | ⟨t1, t2⟩ <;> rcases hlt with l1 | ⟨l1, l2⟩
          all_goals
            
            go_enter Try.func6, Try.ntmps6
            go_wp2_with fail
            refine (toRect4 _ _ _ _ _).mono ?_
            rintro e w1 ⟨rfl, b1⟩
            have z0 : w.heap.size < w1.heap.size := Nat.lt_of_lt_of_le (by simp) b1.size
            have z1 : w.heap.size < w1.heap.size + 1 := by omega
            have z2 : ¬ w.heap.size = w1.heap.size := by omega
            have z3 : w1.heap.size < w1.heap.size + 1 := by omega
            obtain ⟨hc1, _⟩ := bcell b1
            have c0 : w1.cell? ⟨w.heap.size, 0, none⟩ = some (.int .i64 a) := by rw [hc1 w.heap.size 0 (by simp)]; simp
            have c1 : w1.cell? ⟨w.heap.size, 1, none⟩ = some (.int .i64 b) := by rw [hc1 w.heap.size 1 (by simp)]; simp
            have c2 : w1.cell? ⟨w.heap.size, 2, none⟩ = some (.int .i64 c) := by rw [hc1 w.heap.size 2 (by simp)]; simp
            have c3 : w1.cell? ⟨w.heap.size, 3, none⟩ = some (.int .i64 d) := by rw [hc1 w.heap.size 3 (by simp)]; simp
            have bw0 : Below w.heap.size w w1 := ((Below.refl _ _).alloc (Nat.le_refl _) _).trans (b1.mono (by simp))
            have bw : Below w.heap.size w (w1.alloc (.cells #[.int .i64 a, .int .i64 b, .int .i64 c, .int .i64 d] 26)) := bw0.alloc bw0.size _
            clear hc1 b1
            go_wp2_with fail
            have c0 : (w1.alloc (.cells #[.int .i64 a, .int .i64 b, .int .i64 c, .int .i64 d] 26)).cell? ⟨w.heap.size, 0, none⟩ = some (.int .i64 a) := (World.cell?_alloc_lt w1 _ ⟨w.heap.size, 0, none⟩ z0).trans c0
            have c1 : (w1.alloc (.cells #[.int .i64 a, .int .i64 b, .int .i64 c, .int .i64 d] 26)).cell? ⟨w.heap.size, 1, none⟩ = some (.int .i64 b) := (World.cell?_alloc_lt w1 _ ⟨w.heap.size, 1, none⟩ z0).trans c1
            have c2 : (w1.alloc (.cells #[.int .i64 a, .int .i64 b, .int .i64 c, .int .i64 d] 26)).cell? ⟨w.heap.size, 2, none⟩ = some (.int .i64 c) := (World.cell?_alloc_lt w1 _ ⟨w.heap.size, 2, none⟩ z0).trans c2
            have c3 : (w1.alloc (.cells #[.int .i64 a, .int .i64 b, .int .i64 c, .int .i64 d] 26)).cell? ⟨w.heap.size, 3, none⟩ = some (.int .i64 d) := (World.cell?_alloc_lt w1 _ ⟨w.heap.size, 3, none⟩ z0).trans c3
            have q0 : (w1.alloc (.cells #[.int .i64 a, .int .i64 b, .int .i64 c, .int .i64 d] 26)).cell? ⟨w1.heap.size, 0, none⟩ = some (.int .i64 a) := by simp
            have q1 : (w1.alloc (.cells #[.int .i64 a, .int .i64 b, .int .i64 c, .int .i64 d] 26)).cell? ⟨w1.heap.size, 1, none⟩ = some (.int .i64 b) := by simp
            have q2 : (w1.alloc (.cells #[.int .i64 a, .int .i64 b, .int .i64 c, .int .i64 d] 26)).cell? ⟨w1.heap.size, 2, none⟩ = some (.int .i64 c) := by simp
            have q3 : (w1.alloc (.cells #[.int .i64 a, .int .i64 b, .int .i64 c, .int .i64 d] 26)).cell? ⟨w1.heap.size, 3, none⟩ = some (.int .i64 d) := by simp
            have zb : w.heap.size < (w1.alloc (.cells #[.int .i64 a, .int .i64 b, .int .i64 c, .int .i64 d] 26)).heap.size := by simpa using z1
            have zq : w1.heap.size < (w1.alloc (.cells #[.int .i64 a, .int .i64 b, .int .i64 c, .int .i64 d] 26)).heap.size := by simp
            go_wp2_with fail
            refine (fine_yes _ _ _ _ HF.out _).mono ?_
            rintro e wbf ⟨rfl, bf⟩
            replace c0 := (bf.cell (p := ⟨w.heap.size, 0, none⟩) zb).trans c0
            replace c1 := (bf.cell (p := ⟨w.heap.size, 1, none⟩) zb).trans c1
            replace c2 := (bf.cell (p := ⟨w.heap.size, 2, none⟩) zb).trans c2
            replace c3 := (bf.cell (p := ⟨w.heap.size, 3, none⟩) zb).trans c3
            replace q0 := (bf.cell (p := ⟨w1.heap.size, 0, none⟩) zq).trans q0
            replace q1 := (bf.cell (p := ⟨w1.heap.size, 1, none⟩) zq).trans q1
            replace q2 := (bf.cell (p := ⟨w1.heap.size, 2, none⟩) zq).trans q2
            replace q3 := (bf.cell (p := ⟨w1.heap.size, 3, none⟩) zq).trans q3
            replace zb := Nat.lt_of_lt_of_le zb bf.size
            replace zq := Nat.lt_of_lt_of_le zq bf.size
            replace bw := bw.trans (bf.mono bw.size)
            go_wp2_with fail
            refine (has_yes _ _ _ _ _ _ HI.out _).mono ?_
            rintro e wbh ⟨rfl, bh⟩
            replace c0 := (bh.cell (p := ⟨w.heap.size, 0, none⟩) zb).trans c0
            replace c1 := (bh.cell (p := ⟨w.heap.size, 1, none⟩) zb).trans c1
            replace c2 := (bh.cell (p := ⟨w.heap.size, 2, none⟩) zb).trans c2
            replace c3 := (bh.cell (p := ⟨w.heap.size, 3, none⟩) zb).trans c3
            replace q0 := (bh.cell (p := ⟨w1.heap.size, 0, none⟩) zq).trans q0
            replace q1 := (bh.cell (p := ⟨w1.heap.size, 1, none⟩) zq).trans q1
            replace q2 := (bh.cell (p := ⟨w1.heap.size, 2, none⟩) zq).trans q2
            replace q3 := (bh.cell (p := ⟨w1.heap.size, 3, none⟩) zq).trans q3
            replace zb := Nat.lt_of_lt_of_le zb bh.size
            replace zq := Nat.lt_of_lt_of_le zq bh.size
            replace bw := bw.trans (bh.mono bw.size)
            go_wp2_with fail
            refine (has_yes _ _ _ _ _ _ HJ.out _).mono ?_
            rintro e wbi ⟨rfl, bi⟩
            replace c0 := (bi.cell (p := ⟨w.heap.size, 0, none⟩) zb).trans c0
            replace c1 := (bi.cell (p := ⟨w.heap.size, 1, none⟩) zb).trans c1
            replace c2 := (bi.cell (p := ⟨w.heap.size, 2, none⟩) zb).trans c2
            replace c3 := (bi.cell (p := ⟨w.heap.size, 3, none⟩) zb).trans c3
            replace q0 := (bi.cell (p := ⟨w1.heap.size, 0, none⟩) zq).trans q0
            replace q1 := (bi.cell (p := ⟨w1.heap.size, 1, none⟩) zq).trans q1
            replace q2 := (bi.cell (p := ⟨w1.heap.size, 2, none⟩) zq).trans q2
            replace q3 := (bi.cell (p := ⟨w1.heap.size, 3, none⟩) zq).trans q3
            replace zb := Nat.lt_of_lt_of_le zb bi.size
            replace zq := Nat.lt_of_lt_of_le zq bi.size
            replace bw := bw.trans (bi.mono bw.size)
            go_wp2_with fail
            have tok1 : True := trivial
            go_region_held3 (fun w' => w'.cell? ⟨w.heap.size, 0, none⟩ = some (.int .i64 a) ∧ w'.cell? ⟨w.heap.size, 1, none⟩ = some (.int .i64 b) ∧ w'.cell? ⟨w.heap.size, 2, none⟩ = some (.int .i64 c) ∧ w'.cell? ⟨w.heap.size, 3, none⟩ = some (.int .i64 d) ∧ w'.cell? ⟨w1.heap.size, 0, none⟩ = some (.int .i64 a) ∧ w'.cell? ⟨w1.heap.size, 1, none⟩ = some (.int .i64 b) ∧ w'.cell? ⟨w1.heap.size, 2, none⟩ = some (.int .i64 c) ∧ w'.cell? ⟨w1.heap.size, 3, none⟩ = some (.int .i64 d)) (go_keep)
              (first
                    | (go_at_call 31; have _t := tok1; clear _t tok1; refine (grayOffset_any a b c d N h3 h4 h5 h6 HN.out x y o1 HI.out HO1.out _).mono ?_; rintro e wbr ⟨rfl, br⟩; (first | have hcbr := bcelld br | have hcbr := bcellx br); have zbr0 : w.heap.size < wbr.heap.size := Nat.lt_of_lt_of_le (by first | assumption | exact zb | exact zq | exact zp | (simp; omega) | simp) br.size; have zbr1 : w1.heap.size < wbr.heap.size := Nat.lt_of_lt_of_le (by first | assumption | exact zb | exact zq | exact zp | (simp; omega) | simp) br.size; have bw : Below w.heap.size w wbr := (by first | exact bw.trans (br.mono bw.size) | exact bw.drew.trans (br.mono bw.size)))
                    | (go_at_call 31; refine (grayOffset_any a b c d N h3 h4 h5 h6 HN.out u v o2 HJ.out HO2.out _).mono ?_; rintro e wbs ⟨rfl, bs⟩; (first | have hcbs := bcelld bs | have hcbs := bcellx bs); have zbs0 : w.heap.size < wbs.heap.size := Nat.lt_of_lt_of_le (by first | assumption | exact zb | exact zq | exact zp | (simp; omega) | simp) bs.size; have zbs1 : w1.heap.size < wbs.heap.size := Nat.lt_of_lt_of_le (by first | assumption | exact zb | exact zq | exact zp | (simp; omega) | simp) bs.size; have bw : Below w.heap.size w wbs := (by first | exact bw.trans (bs.mono bw.size) | exact bw.drew.trans (bs.mono bw.size))))
            go_wp2_with fail
            go_ret
            exact ⟨rfl, bw⟩
      · have HI := Lib.hid hin
        clear hin
        have HJ := Lib.hid hjn
        clear hjn
        clear hN
        go_enter Try.func6, Try.ntmps6
        go_wp2_with fail
        refine (toRect4 _ _ _ _ _).mono ?_
        rintro e w1 ⟨rfl, b1⟩
        have z0 : w.heap.size < w1.heap.size := Nat.lt_of_lt_of_le (by simp) b1.size
        have z1 : w.heap.size < w1.heap.size + 1 := by omega
        have z2 : ¬ w.heap.size = w1.heap.size := by omega
        have z3 : w1.heap.size < w1.heap.size + 1 := by omega
        obtain ⟨hc1, _⟩ := bcell b1
        have c0 : w1.cell? ⟨w.heap.size, 0, none⟩ = some (.int .i64 a) := by rw [hc1 w.heap.size 0 (by simp)]; simp
        have c1 : w1.cell? ⟨w.heap.size, 1, none⟩ = some (.int .i64 b) := by rw [hc1 w.heap.size 1 (by simp)]; simp
        have c2 : w1.cell? ⟨w.heap.size, 2, none⟩ = some (.int .i64 c) := by rw [hc1 w.heap.size 2 (by simp)]; simp
        have c3 : w1.cell? ⟨w.heap.size, 3, none⟩ = some (.int .i64 d) := by rw [hc1 w.heap.size 3 (by simp)]; simp
        have bw0 : Below w.heap.size w w1 := ((Below.refl _ _).alloc (Nat.le_refl _) _).trans (b1.mono (by simp))
        have bw : Below w.heap.size w (w1.alloc (.cells #[.int .i64 a, .int .i64 b, .int .i64 c, .int .i64 d] 26)) := bw0.alloc bw0.size _
        clear hc1 b1
        go_wp2_with fail
        have c0 : (w1.alloc (.cells #[.int .i64 a, .int .i64 b, .int .i64 c, .int .i64 d] 26)).cell? ⟨w.heap.size, 0, none⟩ = some (.int .i64 a) := (World.cell?_alloc_lt w1 _ ⟨w.heap.size, 0, none⟩ z0).trans c0
        have c1 : (w1.alloc (.cells #[.int .i64 a, .int .i64 b, .int .i64 c, .int .i64 d] 26)).cell? ⟨w.heap.size, 1, none⟩ = some (.int .i64 b) := (World.cell?_alloc_lt w1 _ ⟨w.heap.size, 1, none⟩ z0).trans c1
        have c2 : (w1.alloc (.cells #[.int .i64 a, .int .i64 b, .int .i64 c, .int .i64 d] 26)).cell? ⟨w.heap.size, 2, none⟩ = some (.int .i64 c) := (World.cell?_alloc_lt w1 _ ⟨w.heap.size, 2, none⟩ z0).trans c2
        have c3 : (w1.alloc (.cells #[.int .i64 a, .int .i64 b, .int .i64 c, .int .i64 d] 26)).cell? ⟨w.heap.size, 3, none⟩ = some (.int .i64 d) := (World.cell?_alloc_lt w1 _ ⟨w.heap.size, 3, none⟩ z0).trans c3
        have q0 : (w1.alloc (.cells #[.int .i64 a, .int .i64 b, .int .i64 c, .int .i64 d] 26)).cell? ⟨w1.heap.size, 0, none⟩ = some (.int .i64 a) := by simp
        have q1 : (w1.alloc (.cells #[.int .i64 a, .int .i64 b, .int .i64 c, .int .i64 d] 26)).cell? ⟨w1.heap.size, 1, none⟩ = some (.int .i64 b) := by simp
        have q2 : (w1.alloc (.cells #[.int .i64 a, .int .i64 b, .int .i64 c, .int .i64 d] 26)).cell? ⟨w1.heap.size, 2, none⟩ = some (.int .i64 c) := by simp
        have q3 : (w1.alloc (.cells #[.int .i64 a, .int .i64 b, .int .i64 c, .int .i64 d] 26)).cell? ⟨w1.heap.size, 3, none⟩ = some (.int .i64 d) := by simp
        have zb : w.heap.size < (w1.alloc (.cells #[.int .i64 a, .int .i64 b, .int .i64 c, .int .i64 d] 26)).heap.size := by simpa using z1
        have zq : w1.heap.size < (w1.alloc (.cells #[.int .i64 a, .int .i64 b, .int .i64 c, .int .i64 d] 26)).heap.size := by simp
        go_wp2_with fail
        refine (fine_yes _ _ _ _ HF.out _).mono ?_
        rintro e wbf ⟨rfl, bf⟩
        replace c0 := (bf.cell (p := ⟨w.heap.size, 0, none⟩) zb).trans c0
        replace c1 := (bf.cell (p := ⟨w.heap.size, 1, none⟩) zb).trans c1
        replace c2 := (bf.cell (p := ⟨w.heap.size, 2, none⟩) zb).trans c2
        replace c3 := (bf.cell (p := ⟨w.heap.size, 3, none⟩) zb).trans c3
        replace q0 := (bf.cell (p := ⟨w1.heap.size, 0, none⟩) zq).trans q0
        replace q1 := (bf.cell (p := ⟨w1.heap.size, 1, none⟩) zq).trans q1
        replace q2 := (bf.cell (p := ⟨w1.heap.size, 2, none⟩) zq).trans q2
        replace q3 := (bf.cell (p := ⟨w1.heap.size, 3, none⟩) zq).trans q3
        replace zb := Nat.lt_of_lt_of_le zb bf.size
        replace zq := Nat.lt_of_lt_of_le zq bf.size
        replace bw := bw.trans (bf.mono bw.size)
        go_wp2_with fail
        refine (has_yes _ _ _ _ _ _ HI.out _).mono ?_
        rintro e wbh ⟨rfl, bh⟩
        replace c0 := (bh.cell (p := ⟨w.heap.size, 0, none⟩) zb).trans c0
        replace c1 := (bh.cell (p := ⟨w.heap.size, 1, none⟩) zb).trans c1
        replace c2 := (bh.cell (p := ⟨w.heap.size, 2, none⟩) zb).trans c2
        replace c3 := (bh.cell (p := ⟨w.heap.size, 3, none⟩) zb).trans c3
        replace q0 := (bh.cell (p := ⟨w1.heap.size, 0, none⟩) zq).trans q0
        replace q1 := (bh.cell (p := ⟨w1.heap.size, 1, none⟩) zq).trans q1
        replace q2 := (bh.cell (p := ⟨w1.heap.size, 2, none⟩) zq).trans q2
        replace q3 := (bh.cell (p := ⟨w1.heap.size, 3, none⟩) zq).trans q3
        replace zb := Nat.lt_of_lt_of_le zb bh.size
        replace zq := Nat.lt_of_lt_of_le zq bh.size
        replace bw := bw.trans (bh.mono bw.size)
        go_wp2_with fail
        refine (has_no _ _ _ _ _ _ HJ.out _).mono ?_
        rintro e wbi ⟨rfl, bi⟩
        replace c0 := (bi.cell (p := ⟨w.heap.size, 0, none⟩) zb).trans c0
        replace c1 := (bi.cell (p := ⟨w.heap.size, 1, none⟩) zb).trans c1
        replace c2 := (bi.cell (p := ⟨w.heap.size, 2, none⟩) zb).trans c2
        replace c3 := (bi.cell (p := ⟨w.heap.size, 3, none⟩) zb).trans c3
        replace q0 := (bi.cell (p := ⟨w1.heap.size, 0, none⟩) zq).trans q0
        replace q1 := (bi.cell (p := ⟨w1.heap.size, 1, none⟩) zq).trans q1
        replace q2 := (bi.cell (p := ⟨w1.heap.size, 2, none⟩) zq).trans q2
        replace q3 := (bi.cell (p := ⟨w1.heap.size, 3, none⟩) zq).trans q3
        replace zb := Nat.lt_of_lt_of_le zb bi.size
        replace zq := Nat.lt_of_lt_of_le zq bi.size
        replace bw := bw.trans (bi.mono bw.size)
        go_wp2_with fail
        go_ret
        exact ⟨rfl, bw⟩
    · have HI := Lib.hid hin
      clear hin hN
      go_enter Try.func6, Try.ntmps6
      go_wp2_with fail
      refine (toRect4 _ _ _ _ _).mono ?_
      rintro e w1 ⟨rfl, b1⟩
      have z0 : w.heap.size < w1.heap.size := Nat.lt_of_lt_of_le (by simp) b1.size
      have z1 : w.heap.size < w1.heap.size + 1 := by omega
      have z2 : ¬ w.heap.size = w1.heap.size := by omega
      have z3 : w1.heap.size < w1.heap.size + 1 := by omega
      obtain ⟨hc1, _⟩ := bcell b1
      have c0 : w1.cell? ⟨w.heap.size, 0, none⟩ = some (.int .i64 a) := by rw [hc1 w.heap.size 0 (by simp)]; simp
      have c1 : w1.cell? ⟨w.heap.size, 1, none⟩ = some (.int .i64 b) := by rw [hc1 w.heap.size 1 (by simp)]; simp
      have c2 : w1.cell? ⟨w.heap.size, 2, none⟩ = some (.int .i64 c) := by rw [hc1 w.heap.size 2 (by simp)]; simp
      have c3 : w1.cell? ⟨w.heap.size, 3, none⟩ = some (.int .i64 d) := by rw [hc1 w.heap.size 3 (by simp)]; simp
      have bw0 : Below w.heap.size w w1 := ((Below.refl _ _).alloc (Nat.le_refl _) _).trans (b1.mono (by simp))
      have bw : Below w.heap.size w (w1.alloc (.cells #[.int .i64 a, .int .i64 b, .int .i64 c, .int .i64 d] 26)) := bw0.alloc bw0.size _
      clear hc1 b1
      go_wp2_with fail
      have c0 : (w1.alloc (.cells #[.int .i64 a, .int .i64 b, .int .i64 c, .int .i64 d] 26)).cell? ⟨w.heap.size, 0, none⟩ = some (.int .i64 a) := (World.cell?_alloc_lt w1 _ ⟨w.heap.size, 0, none⟩ z0).trans c0
      have c1 : (w1.alloc (.cells #[.int .i64 a, .int .i64 b, .int .i64 c, .int .i64 d] 26)).cell? ⟨w.heap.size, 1, none⟩ = some (.int .i64 b) := (World.cell?_alloc_lt w1 _ ⟨w.heap.size, 1, none⟩ z0).trans c1
      have c2 : (w1.alloc (.cells #[.int .i64 a, .int .i64 b, .int .i64 c, .int .i64 d] 26)).cell? ⟨w.heap.size, 2, none⟩ = some (.int .i64 c) := (World.cell?_alloc_lt w1 _ ⟨w.heap.size, 2, none⟩ z0).trans c2
      have c3 : (w1.alloc (.cells #[.int .i64 a, .int .i64 b, .int .i64 c, .int .i64 d] 26)).cell? ⟨w.heap.size, 3, none⟩ = some (.int .i64 d) := (World.cell?_alloc_lt w1 _ ⟨w.heap.size, 3, none⟩ z0).trans c3
      have q0 : (w1.alloc (.cells #[.int .i64 a, .int .i64 b, .int .i64 c, .int .i64 d] 26)).cell? ⟨w1.heap.size, 0, none⟩ = some (.int .i64 a) := by simp
      have q1 : (w1.alloc (.cells #[.int .i64 a, .int .i64 b, .int .i64 c, .int .i64 d] 26)).cell? ⟨w1.heap.size, 1, none⟩ = some (.int .i64 b) := by simp
      have q2 : (w1.alloc (.cells #[.int .i64 a, .int .i64 b, .int .i64 c, .int .i64 d] 26)).cell? ⟨w1.heap.size, 2, none⟩ = some (.int .i64 c) := by simp
      have q3 : (w1.alloc (.cells #[.int .i64 a, .int .i64 b, .int .i64 c, .int .i64 d] 26)).cell? ⟨w1.heap.size, 3, none⟩ = some (.int .i64 d) := by simp
      have zb : w.heap.size < (w1.alloc (.cells #[.int .i64 a, .int .i64 b, .int .i64 c, .int .i64 d] 26)).heap.size := by simpa using z1
      have zq : w1.heap.size < (w1.alloc (.cells #[.int .i64 a, .int .i64 b, .int .i64 c, .int .i64 d] 26)).heap.size := by simp
      go_wp2_with fail
      refine (fine_yes _ _ _ _ HF.out _).mono ?_
      rintro e wbf ⟨rfl, bf⟩
      replace c0 := (bf.cell (p := ⟨w.heap.size, 0, none⟩) zb).trans c0
      replace c1 := (bf.cell (p := ⟨w.heap.size, 1, none⟩) zb).trans c1
      replace c2 := (bf.cell (p := ⟨w.heap.size, 2, none⟩) zb).trans c2
      replace c3 := (bf.cell (p := ⟨w.heap.size, 3, none⟩) zb).trans c3
      replace q0 := (bf.cell (p := ⟨w1.heap.size, 0, none⟩) zq).trans q0
      replace q1 := (bf.cell (p := ⟨w1.heap.size, 1, none⟩) zq).trans q1
      replace q2 := (bf.cell (p := ⟨w1.heap.size, 2, none⟩) zq).trans q2
      replace q3 := (bf.cell (p := ⟨w1.heap.size, 3, none⟩) zq).trans q3
      replace zb := Nat.lt_of_lt_of_le zb bf.size
      replace zq := Nat.lt_of_lt_of_le zq bf.size
      replace bw := bw.trans (bf.mono bw.size)
      go_wp2_with fail
      refine (has_no _ _ _ _ _ _ HI.out _).mono ?_
      rintro e wbh ⟨rfl, bh⟩
      replace c0 := (bh.cell (p := ⟨w.heap.size, 0, none⟩) zb).trans c0
      replace c1 := (bh.cell (p := ⟨w.heap.size, 1, none⟩) zb).trans c1
      replace c2 := (bh.cell (p := ⟨w.heap.size, 2, none⟩) zb).trans c2
      replace c3 := (bh.cell (p := ⟨w.heap.size, 3, none⟩) zb).trans c3
      replace q0 := (bh.cell (p := ⟨w1.heap.size, 0, none⟩) zq).trans q0
      replace q1 := (bh.cell (p := ⟨w1.heap.size, 1, none⟩) zq).trans q1
      replace q2 := (bh.cell (p := ⟨w1.heap.size, 2, none⟩) zq).trans q2
      replace q3 := (bh.cell (p := ⟨w1.heap.size, 3, none⟩) zq).trans q3
      replace zb := Nat.lt_of_lt_of_le zb bh.size
      replace zq := Nat.lt_of_lt_of_le zq bh.size
      replace bw := bw.trans (bh.mono bw.size)
      go_wp2_with fail
      go_ret
      exact ⟨rfl, bw⟩
  · have HF := Lib.hid hf
    clear hf
    go_enter Try.func6, Try.ntmps6
    go_wp2_with fail
    refine (toRect4 _ _ _ _ _).mono ?_
    rintro e w1 ⟨rfl, b1⟩
    have z0 : w.heap.size < w1.heap.size := Nat.lt_of_lt_of_le (by simp) b1.size
    have z1 : w.heap.size < w1.heap.size + 1 := by omega
    have z2 : ¬ w.heap.size = w1.heap.size := by omega
    have z3 : w1.heap.size < w1.heap.size + 1 := by omega
    obtain ⟨hc1, _⟩ := bcell b1
    have c0 : w1.cell? ⟨w.heap.size, 0, none⟩ = some (.int .i64 a) := by rw [hc1 w.heap.size 0 (by simp)]; simp
    have c1 : w1.cell? ⟨w.heap.size, 1, none⟩ = some (.int .i64 b) := by rw [hc1 w.heap.size 1 (by simp)]; simp
    have c2 : w1.cell? ⟨w.heap.size, 2, none⟩ = some (.int .i64 c) := by rw [hc1 w.heap.size 2 (by simp)]; simp
    have c3 : w1.cell? ⟨w.heap.size, 3, none⟩ = some (.int .i64 d) := by rw [hc1 w.heap.size 3 (by simp)]; simp
    have bw0 : Below w.heap.size w w1 := ((Below.refl _ _).alloc (Nat.le_refl _) _).trans (b1.mono (by simp))
    have bw : Below w.heap.size w (w1.alloc (.cells #[.int .i64 a, .int .i64 b, .int .i64 c, .int .i64 d] 26)) := bw0.alloc bw0.size _
    clear hc1 b1
    go_wp2_with fail
    have c0 : (w1.alloc (.cells #[.int .i64 a, .int .i64 b, .int .i64 c, .int .i64 d] 26)).cell? ⟨w.heap.size, 0, none⟩ = some (.int .i64 a) := (World.cell?_alloc_lt w1 _ ⟨w.heap.size, 0, none⟩ z0).trans c0
    have c1 : (w1.alloc (.cells #[.int .i64 a, .int .i64 b, .int .i64 c, .int .i64 d] 26)).cell? ⟨w.heap.size, 1, none⟩ = some (.int .i64 b) := (World.cell?_alloc_lt w1 _ ⟨w.heap.size, 1, none⟩ z0).trans c1
    have c2 : (w1.alloc (.cells #[.int .i64 a, .int .i64 b, .int .i64 c, .int .i64 d] 26)).cell? ⟨w.heap.size, 2, none⟩ = some (.int .i64 c) := (World.cell?_alloc_lt w1 _ ⟨w.heap.size, 2, none⟩ z0).trans c2
    have c3 : (w1.alloc (.cells #[.int .i64 a, .int .i64 b, .int .i64 c, .int .i64 d] 26)).cell? ⟨w.heap.size, 3, none⟩ = some (.int .i64 d) := (World.cell?_alloc_lt w1 _ ⟨w.heap.size, 3, none⟩ z0).trans c3
    have q0 : (w1.alloc (.cells #[.int .i64 a, .int .i64 b, .int .i64 c, .int .i64 d] 26)).cell? ⟨w1.heap.size, 0, none⟩ = some (.int .i64 a) := by simp
    have q1 : (w1.alloc (.cells #[.int .i64 a, .int .i64 b, .int .i64 c, .int .i64 d] 26)).cell? ⟨w1.heap.size, 1, none⟩ = some (.int .i64 b) := by simp
    have q2 : (w1.alloc (.cells #[.int .i64 a, .int .i64 b, .int .i64 c, .int .i64 d] 26)).cell? ⟨w1.heap.size, 2, none⟩ = some (.int .i64 c) := by simp
    have q3 : (w1.alloc (.cells #[.int .i64 a, .int .i64 b, .int .i64 c, .int .i64 d] 26)).cell? ⟨w1.heap.size, 3, none⟩ = some (.int .i64 d) := by simp
    have zb : w.heap.size < (w1.alloc (.cells #[.int .i64 a, .int .i64 b, .int .i64 c, .int .i64 d] 26)).heap.size := by simpa using z1
    have zq : w1.heap.size < (w1.alloc (.cells #[.int .i64 a, .int .i64 b, .int .i64 c, .int .i64 d] 26)).heap.size := by simp
    go_wp2_with fail
    refine (fine_no _ _ _ _ ha hb hc hd HF.out _).mono ?_
    rintro e wbf ⟨rfl, bf⟩
    go_wp2_with fail
    go_ret
    exact ⟨rfl, bw.trans (bf.mono bw.size)⟩

end Go.Proofs.Ytpijljokcoocpaa

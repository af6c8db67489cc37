/-
  Contract: whether an NRGBA image is opaque. No condition.
-/
import Derived.Test.YtkhofahobcegiaaN6
namespace Go.Proofs.Ytkhofahobcegiaa
open Go.ChangeShapes Go.WideShapes Go.ChangeAt Go.RowKit
set_option linter.unusedVariables false
set_option linter.unusedSimpArgs false

/-- The last byte of each of the first M pixels is 255. -/
def Opq (bs : List Int) (M : Nat) : Prop := ∀ p, p < M → bs.getD (4 * p + 3) 0 = 255
instance (bs : List Int) (M : Nat) : Decidable (Opq bs M) := by unfold Opq; infer_instance
def opqB (bs : List Int) (M : Nat) : Bool := decide (Opq bs M)
theorem opqB_yes {bs : List Int} {M : Nat} (h : Opq bs M) : opqB bs M = true := decide_eq_true h
theorem opqB_no {bs : List Int} {M p : Nat} (hp : p < M) (h : ¬ bs.getD (4 * p + 3) 0 = 255) : opqB bs M = false := decide_eq_false fun k => h (k p hp)
theorem Opq.succ {bs : List Int} {M : Nat} (h : Opq bs M) (k : bs.getD (4 * M + 3) 0 = 255) : Opq bs (M + 1) := fun p hp => by
  rcases Nat.lt_succ_iff_lt_or_eq.1 hp with h1 | rfl
  · exact h p h1
  · exact k
theorem Opq.eq {bs : List Int} {M M' : Nat} (h : Opq bs M) (e : M = M') : Opq bs M' := e ▸ h

theorem dxW (a b c d : Int) (W : Nat) (hW : c - a = W) (h : W ≤ 1000) (w : World) :
    Calls Try.prog 75 #[.agg #[.int .i64 a, .int .i64 b, .int .i64 c, .int .i64 d]] w fun e w' => e = .returned (.int .i64 (W : Int)) ∧ Below w.heap.size w w' :=
  (dx_any a b c d (by unfold I64; omega) w).mono fun _ _ ⟨h1, h2⟩ => ⟨by rw [h1, hW], h2⟩

set_option maxRecDepth 100000 in
theorem opaqueN_any (gp gb W H N : Nat) (st a b c d : Int) (bs : List Int) (w : World) (hi : Img w gp gb 0 N st a b c d) (hp : Pix w gb bs) (hl : bs.length = N) (hW : c - a = W) (hH : d - b = H) (hN : N = 4 * (W * H)) (s1 : st ≤ 4 * W) (s2 : 4 * W ≤ st)
    (w1 : W ≤ 1000) (w2 : H ≤ 1000) (b1 : -4611686018427387904 ≤ b) (b2 : d ≤ 4611686018427387904) :
    Calls Try.prog 65 #[.pointer (some ⟨gp, 0, none⟩)] w fun e w' => e = .returned (.bool (opqB bs (W * H))) ∧ Below w.heap.size w w' := by
  have HW := Lib.hid hW
  have HP := Lib.hid hp
  have HL := Lib.hid hl
  have hH1 : d - b ≤ H := by omega
  have hH2 : (H : Int) ≤ d - b := by omega
  have hlt := hi.lt
  have hgb := hp.lt
  have hN4 : N ≤ 4000000 := by
    have := Nat.mul_le_mul w1 w2
    omega
  have HN := Lib.hid hN
  obtain ⟨r0, r1, r2, r3, r4, r5⟩ := hi.cells
  by_cases hE : W = 0 ∨ H = 0
  · have E : c ≤ a ∨ d ≤ b := by rcases hE with h | h <;> omega
    have R : Hid (opqB bs (W * H) = true) := opqB_yes fun p hp => by
      rcases hE with h | h <;> (rw [h] at hp; simp at hp)
    clear hp hl hi hW hH hN hE
    go_enter Try.func65, Try.ntmps65
    go_wp2_with fail
    refine (empty_yes a b c d E _).mono ?_
    rintro e x1 ⟨rfl, c1⟩
    go_wp2_with fail
    go_ret
    exact ⟨by rw [R.out]; rfl, c1⟩
  · have E1 : a < c := by omega
    have E2 : b < d := by omega
    clear hp hl hi hW hH hN hE
    go_enter Try.func65, Try.ntmps65
    go_wp2_with fail
    refine (empty_no a b c d E1 E2 _).mono ?_
    rintro e x1 ⟨rfl, c1⟩
    have q2 := (c1.cell (p := ⟨gp, 2, none⟩) hlt).trans r2
    have q3 := (c1.cell (p := ⟨gp, 3, none⟩) hlt).trans r3
    have q4 := (c1.cell (p := ⟨gp, 4, none⟩) hlt).trans r4
    have q5 := (c1.cell (p := ⟨gp, 5, none⟩) hlt).trans r5
    go_wp2_with fail
    refine (dxW a b c d W HW.out w1 _).mono ?_
    rintro e x2 ⟨rfl, c2⟩
    have cw := Go.Proofs.Ytkhofahobcegiaa.bs c2 c1
    have p0 := (cw.cell (p := ⟨gp, 0, none⟩) hlt).trans r0
    have p1 := (cw.cell (p := ⟨gp, 1, none⟩) hlt).trans r1
    have p3 := (cw.cell (p := ⟨gp, 3, none⟩) hlt).trans r3
    have p5 := (cw.cell (p := ⟨gp, 5, none⟩) hlt).trans r5
    have HP2 := Lib.hid (HP.out.below cw)
    have CW := Lib.hid cw
    clear q2 q3 q4 q5 r0 r1 r2 r3 r4 r5 c1 c2 cw HP
    go_wp2_with fail
    go_loop [3, 4, 5, 6] (fun u v y _ => ∃ (r R : Nat) (uu vv yy : Int), u = .int .i64 uu ∧ v = .int .i64 vv ∧ y = .int .i64 yy ∧ r ≤ H ∧ Hid (R = r * W) ∧ R ≤ 1000000 ∧ uu ≤ 3 + 4 * (R : Int) ∧ 3 + 4 * (R : Int) ≤ uu ∧ vv ≤ 4 * (R : Int) + 4 * W ∧ 4 * (R : Int) + 4 * W ≤ vv ∧ yy ≤ b + r ∧ b + r ≤ yy ∧ Hid (Opq bs R)) (fun _ _ y _ => (d - intOf y).toNat)
    case atStart => exact ⟨0, 0, 3, (W : Int) * 4, b, rfl, rfl, rfl, by omega, (Nat.zero_mul _).symm, by omega, by omega, by omega, by omega, by omega, by omega, by omega, fun p hp => absurd hp (by omega)⟩
    case round =>
      obtain ⟨r, R, uu, vv, yy, rfl, rfl, rfl, hr, HRR, hR6, u1, u2, v1, v2, y1, y2, HO⟩ := hrel
      by_cases hlt2 : r < H
      · have ylt : yy < d := by omega
        have HM := Lib.hid (show R + W ≤ W * H by
          have := Nat.mul_le_mul_right W (show r + 1 ≤ H from hlt2)
          rw [Nat.add_mul, Nat.one_mul, ← HRR.out, Nat.mul_comm H W] at this
          exact this)
        have hRW : R + W ≤ 1000000 := by have := HM.out; have := Nat.mul_le_mul w1 w2; omega
        have hRN : 4 * (R + W) ≤ N := by have := HM.out; have := HN.out; omega
        go_wp2_with fail
        go_loop [6] (fun i => ∃ (j : Nat) (ii : Int), i = .int .i64 ii ∧ j ≤ W ∧ ii ≤ 3 + 4 * (R : Int) + 4 * j ∧ 3 + 4 * (R : Int) + 4 * j ≤ ii ∧ Hid (Opq bs (R + j))) (fun i => (vv - intOf i).toNat)
        case atStart => exact ⟨0, uu, rfl, by omega, by omega, by omega, HO⟩
        case round =>
          obtain ⟨j, ii, rfl, hj, i1, i2, HJ⟩ := hrel
          by_cases hjW : j < W
          · have ilt : ii < vv := by omega
            have ilN : ii < (N : Int) := by omega
            have i0 : 0 ≤ ii := by omega
            have xc := HP2.out.cell (i := ii.toNat) (by rw [HL.out]; omega)
            have e3 : 4 * (R + j) + 3 = ii.toNat := by omega
            have hz := HP2.out.byte ii.toNat
            by_cases hz5 : bs.getD ii.toNat 0 = 255
            · have HJ2 : Hid (Opq bs (R + j + 1)) := HJ.out.succ (by rw [e3]; exact hz5)
              have hb : (bs.getD ii.toNat 0 != 255) = false := by rw [hz5]; rfl
              clear e3 hz5
              generalize bs.getD ii.toNat 0 = z at *
              go_wp2_with fail
              go_round
              case rel => exact ⟨j + 1, ii + 4, rfl, by omega, by omega, by omega, HJ2⟩
              case measure => simp [intOf]; omega
            · have RR : Hid (opqB bs (W * H) = false) := opqB_no (p := R + j) (by have := HM.out; omega) (by rw [e3]; exact hz5)
              have hb : (bs.getD ii.toNat 0 != 255) = true := by simpa using hz5
              clear e3 hz5
              generalize bs.getD ii.toNat 0 = z at *
              go_wp2_with fail
              go_ret
              exact ⟨by rw [RR.out]; rfl, CW.out⟩
          · obtain rfl : j = W := by omega
            have ilt : ¬ ii < vv := by omega
            go_wp2_with fail
            go_round
            case rel => exact ⟨r + 1, R + j, uu + st, vv + st, yy + 1, rfl, rfl, rfl, by omega, by show R + j = (r + 1) * j; rw [Nat.add_mul, Nat.one_mul, ← HRR.out], by omega, by omega, by omega, by omega, by omega, by omega, by omega, HJ⟩
            case measure => simp [intOf]; omega
      · obtain rfl : r = H := by omega
        have ylt : ¬ yy < d := by omega
        have RR : Hid (opqB bs (W * r) = true) := opqB_yes (HO.out.eq (by rw [HRR.out, Nat.mul_comm]))
        go_wp2_with fail
        go_ret
        exact ⟨by rw [RR.out]; rfl, CW.out⟩

end Go.Proofs.Ytkhofahobcegiaa

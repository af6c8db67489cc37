/-
  Contracts: offsets, reads and writes of an image. No condition.
-/
import Derived.Test.YtpijljokcoocpaaI4
namespace Go.Proofs.Ytpijljokcoocpaa
open Go.ChangeShapes Go.WideShapes Go.ChangeAt Go.RowKit
set_option linter.unusedVariables false
set_option linter.unusedSimpArgs false

/-- The call returns some number of 64 bits and only draws. -/
def SomeInt (w : World) (e : Ending) (w' : World) : Prop := ∃ i : Int, I64 i ∧ e = .returned (.int .i64 i) ∧ ∃ k, w' = w.drewN k

theorem wrap_I64 (i : Int) : I64 (wrap64 i) := by
  unfold I64 wrap64
  omega

theorem pixoff_any (gp : Nat) (x y st a b : Int) (w : World) (r1 : w.cell? ⟨gp, 1, none⟩ = some (.int .i64 st)) (r2 : w.cell? ⟨gp, 2, none⟩ = some (.int .i64 a)) (r3 : w.cell? ⟨gp, 3, none⟩ = some (.int .i64 b)) :
    Calls Try.prog 55 #[.pointer (some ⟨gp, 0, none⟩), .int .i64 x, .int .i64 y] w (SomeInt w) := by
  go_enter Try.func55, Try.ntmps55
  go_wp2
  go_quiet (fail)
  go_wp2
  go_ret
  exact ⟨_, wrap_I64 _, rfl, _, rfl⟩

theorem pixoff_in (gp o : Nat) (x y st a b : Int) (w : World) (r1 : w.cell? ⟨gp, 1, none⟩ = some (.int .i64 st)) (r2 : w.cell? ⟨gp, 2, none⟩ = some (.int .i64 a)) (r3 : w.cell? ⟨gp, 3, none⟩ = some (.int .i64 b))
    (h1 : 0 ≤ y - b) (h2 : y - b ≤ 1000) (h3 : 0 ≤ x - a) (h4 : x - a ≤ 1000) (h5 : 0 ≤ st) (h6 : st ≤ 4000) (ho : (y - b) * st + (x - a) = o) :
    Calls Try.prog 55 #[.pointer (some ⟨gp, 0, none⟩), .int .i64 x, .int .i64 y] w fun e w' => e = .returned (.int .i64 o) ∧ ∃ k, w' = w.drewN k := by
  have k1 : 0 ≤ (y - b) * st := Int.mul_nonneg h1 h5
  have k2 : (y - b) * st ≤ 1000 * 4000 := Int.mul_le_mul h2 h6 h5 (by decide)
  have e1 : IntKind.i64.wrap (y - b) = y - b := IntWalk.i64_in _ ⟨by omega, by omega⟩
  have e2 : IntKind.i64.wrap ((y - b) * st) = (y - b) * st := IntWalk.i64_in _ ⟨by omega, by omega⟩
  have e3 : IntKind.i64.wrap (x - a) = x - a := IntWalk.i64_in _ ⟨by omega, by omega⟩
  have e5 : IntKind.i64.wrap ((y - b) * st + (x - a)) = o := by rw [ho]; exact IntWalk.i64_in _ ⟨by omega, by omega⟩
  clear ho k1 k2 h1 h2 h3 h4 h5 h6
  go_enter Try.func55, Try.ntmps55
  go_wp2
  go_quiet (fail)
  go_wp2
  go_ret
  exact ⟨rfl, _, rfl⟩

theorem grayAt_out (gp : Nat) (x y a b c d : Int) (w : World) (hlt : gp < w.heap.size) (r2 : w.cell? ⟨gp, 2, none⟩ = some (.int .i64 a)) (r3 : w.cell? ⟨gp, 3, none⟩ = some (.int .i64 b)) (r4 : w.cell? ⟨gp, 4, none⟩ = some (.int .i64 c)) (r5 : w.cell? ⟨gp, 5, none⟩ = some (.int .i64 d)) (hin : ¬ In a b c d x y) :
    Calls Try.prog 52 #[.pointer (some ⟨gp, 0, none⟩), .int .i64 x, .int .i64 y] w fun e w' => e = .returned (.agg #[.int .u8 0]) ∧ Below w.heap.size w w' := by
  have HIN := Lib.hid hin
  clear hin
  go_enter Try.func52, Try.ntmps52
  go_wp2_with fail
  refine (in_no _ _ _ _ _ _ HIN.out _).mono ?_
  rintro e w1 ⟨rfl, b1⟩
  obtain ⟨hc, hf⟩ := bcell b1
  go_wp2
  exact bodyPost_ret (v := .agg #[.int .u8 0]) (by simp [results, Try.results52, go_sem, hc]) rfl ⟨rfl, (((Below.refl _ _).alloc (Nat.le_refl _) _).trans (b1.mono (by simp))).setCell (Nat.le_refl _) _⟩

theorem grayAt_in (gp gb off o len : Nat) (x y st a b c d : Int) (bs : List Int) (w : World) (hi : Img w gp gb off len st a b c d) (hp : Pix w gb bs) (hin : In a b c d x y)
    (h2 : d - b ≤ 1000) (h4 : c - a ≤ 1000) (h5 : 0 ≤ st) (h6 : st ≤ 4000) (ho : (y - b) * st + (x - a) = o) (hol : o < len) (hlen : off + len = bs.length) (hl4 : len ≤ 4000000) :
    Calls Try.prog 52 #[.pointer (some ⟨gp, 0, none⟩), .int .i64 x, .int .i64 y] w fun e w' => e = .returned (.agg #[.int .u8 (bs.getD (off + o) 0)]) ∧ Below w.heap.size w w' := by
  have hlt := hi.lt
  have hgb := hp.lt
  obtain ⟨r0, r1, r2, r3, r4, r5⟩ := hi.cells
  have x1 := hp.cell (i := off + o) (by omega)
  have HIN := Lib.hid hin
  have HO := Lib.hid ho
  generalize bs.getD (off + o) 0 = z at x1
  clear hi hp hin ho hlen
  go_enter Try.func52, Try.ntmps52
  go_wp2_with fail
  refine (in_yes _ _ _ _ _ _ HIN.out _).mono ?_
  rintro e w1 ⟨rfl, b1⟩
  obtain ⟨hc, hf⟩ := bcell b1
  have hz1 : w.heap.size < w1.heap.size := Nat.lt_of_lt_of_le (by simp) b1.size
  have bw : Below w.heap.size w w1 := ((Below.refl _ _).alloc (Nat.le_refl _) _).trans (b1.mono (by simp))
  have q0 := (bw.cell (p := ⟨gp, 0, none⟩) hlt).trans r0
  have q1 := (bw.cell (p := ⟨gp, 1, none⟩) hlt).trans r1
  have q2 := (bw.cell (p := ⟨gp, 2, none⟩) hlt).trans r2
  have q3 := (bw.cell (p := ⟨gp, 3, none⟩) hlt).trans r3
  have q6 := (bw.cell (p := ⟨gb, off + o, none⟩) hgb).trans x1
  have q7 : w1.cell? ⟨w.heap.size, 0, none⟩ = some (.int .u8 0) := by rw [hc w.heap.size 0 (by simp)]; simp
  have q8 : w1.frozen? ⟨w.heap.size, 0, none⟩ = false := by rw [hf w.heap.size 0 (by simp)]; simp
  clear hc hf r0 r1 r2 r3 r4 r5 x1
  obtain ⟨u1, u2, u3, u4⟩ := HIN.out
  go_wp2_with fail
  refine (pixoff_in gp o x y st a b _ q1 q2 q3 (by omega) (by omega) (by omega) (by omega) h5 h6 HO.out).mono ?_
  rintro e w2 ⟨rfl, k, rfl⟩
  go_wp2
  exact bodyPost_ret (v := .agg #[.int .u8 z]) (by simp [results, Try.results52, go_sem, q7]) rfl ⟨rfl, (below_drewN bw k).setCell (Nat.le_refl _) _⟩

theorem results_none {fn : Func} (h : fn.results = #[]) (tmps : Array Value) (P : Program) (w : World) : (results fn tmps).run P w = .ok (.tuple #[]) w := by simp [results, h]
/-- Nothing is written: the point is not there. -/
theorem setGray_out (gp : Nat) (x y a b c d z : Int) (w : World) (hlt : gp < w.heap.size) (r2 : w.cell? ⟨gp, 2, none⟩ = some (.int .i64 a)) (r3 : w.cell? ⟨gp, 3, none⟩ = some (.int .i64 b)) (r4 : w.cell? ⟨gp, 4, none⟩ = some (.int .i64 c)) (r5 : w.cell? ⟨gp, 5, none⟩ = some (.int .i64 d)) (hin : ¬ In a b c d x y) :
    Calls Try.prog 57 #[.pointer (some ⟨gp, 0, none⟩), .int .i64 x, .int .i64 y, .agg #[.int .u8 z]] w fun e w' => e = .returned (.tuple #[]) ∧ Below w.heap.size w w' := by
  have HIN := Lib.hid hin
  clear hin
  go_enter Try.func57, Try.ntmps57
  go_wp2_with fail
  refine (in_no _ _ _ _ _ _ HIN.out _).mono ?_
  rintro e w1 ⟨rfl, b1⟩
  go_wp2
  exact bodyPost_ret (results_none rfl _ _ _) rfl ⟨rfl, ((Below.refl _ _).alloc (Nat.le_refl _) _).trans (b1.mono (by simp))⟩

theorem Img.ne {w : World} {gp gb gb' off len : Nat} {st a b c d : Int} {bs : List Int} (hi : Img w gp gb' off len st a b c d) (hp : Pix w gb bs) : gp ≠ gb := by
  rintro rfl
  have e2 := hp.1
  unfold Img at hi
  rw [hi] at e2
  injection e2 with e2
  injection e2 with _ e3 _
  exact absurd e3 (by decide)

theorem grown_set {w w1 : World} {g i : Nat} {u : Value} (bw : Below w.heap.size w w1) : w.grownBy (w1.setCell ⟨g, i, none⟩ u) (some g) :=
  ⟨bw.os, bw.tape, bw.output, by simpa [World.setCell] using bw.size, fun j hj hne => (Below.heap_setCell _ _ _ j (by rintro rfl; exact hne rfl)).trans (bw.block j hj)⟩

theorem setGray_in (gp gb off o len : Nat) (x y st a b c d z : Int) (bs : List Int) (w : World) (hi : Img w gp gb off len st a b c d) (hp : Pix w gb bs) (hin : In a b c d x y) (hz0 : 0 ≤ z) (hz1 : z ≤ 255)
    (h2 : d - b ≤ 1000) (h4 : c - a ≤ 1000) (h5 : 0 ≤ st) (h6 : st ≤ 4000) (ho : (y - b) * st + (x - a) = o) (hol : o < len) (hlen : off + len = bs.length) (hl4 : len ≤ 4000000) :
    Calls Try.prog 57 #[.pointer (some ⟨gp, 0, none⟩), .int .i64 x, .int .i64 y, .agg #[.int .u8 z]] w fun e w' => e = .returned (.tuple #[]) ∧ Pix w' gb (bs.set (off + o) z) ∧ w.grownBy w' (some gb) := by
  have hlt := hi.lt
  have hne : ¬ gp = gb := hi.ne hp
  have hne1 : ¬ gb = gp := fun h => hne h.symm
  have hne2 : ¬ w.heap.size = gb := by have := hp.lt; omega
  have hne3 : ¬ gb = w.heap.size := fun h => hne2 h.symm
  have hgb := hp.lt
  obtain ⟨r0, r1, r2, r3, r4, r5⟩ := hi.cells
  have x1 := hp.cell (i := off + o) (by omega)
  have HIN := Lib.hid hin
  have HO := Lib.hid ho
  have HP := Lib.hid hp
  generalize bs.getD (off + o) 0 = z0 at x1
  clear hi hp hin ho hlen
  go_enter Try.func57, Try.ntmps57
  go_wp2_with fail
  refine (in_yes _ _ _ _ _ _ HIN.out _).mono ?_
  rintro e w1 ⟨rfl, b1⟩
  obtain ⟨hc, hf⟩ := bcell b1
  have bw : Below w.heap.size w w1 := ((Below.refl _ _).alloc (Nat.le_refl _) _).trans (b1.mono (by simp))
  have q0 := (bw.cell (p := ⟨gp, 0, none⟩) hlt).trans r0
  have q1 := (bw.cell (p := ⟨gp, 1, none⟩) hlt).trans r1
  have q2 := (bw.cell (p := ⟨gp, 2, none⟩) hlt).trans r2
  have q3 := (bw.cell (p := ⟨gp, 3, none⟩) hlt).trans r3
  have q6 := (bw.cell (p := ⟨gb, off + o, none⟩) hgb).trans x1
  have q5 : w1.frozen? ⟨gb, off + o, none⟩ = false := (bw.frozen (p := ⟨gb, off + o, none⟩) hgb).trans (HP.out.free _)
  have q7 : w1.cell? ⟨w.heap.size, 0, none⟩ = some (.int .u8 z) := by rw [hc w.heap.size 0 (by simp)]; simp
  have HP1 := Lib.hid (HP.out.below bw)
  clear hc hf r0 r1 r2 r3 r4 r5 x1 HP
  obtain ⟨u1, u2, u3, u4⟩ := HIN.out
  go_wp2_with fail
  refine (pixoff_in gp o x y st a b _ q1 q2 q3 (by omega) (by omega) (by omega) (by omega) h5 h6 HO.out).mono ?_
  rintro e w2 ⟨rfl, k, rfl⟩
  go_wp2
  have hoI : (o : Int) < (len : Int) := by omega
  go_region_held3 (fun w' => w'.cell? ⟨gp, 0, none⟩ = some (.slice (some ⟨gb, off, none⟩) len len) ∧ w'.cell? ⟨w.heap.size, 0, none⟩ = some (.int .u8 z)) (go_keep) (fail)
  go_wp2
  go_end0
  exact ⟨rfl, Pix.set (w := w1.drewN (k + 1)) HP1.out (off + o) z hz0 hz1, grown_set (below_drewN bw (k + 1))⟩

end Go.Proofs.Ytpijljokcoocpaa
